/-
  DERIVED, BY AN AI AGENT. Seat b6600249a: THE WALK of FnReserveChainWalksBack (8).
-/
import Derived.Test.Qxb6600249aRes7
import Derived.Deep.RegionWith
namespace Go.Proofs.Qxb6600249a
open Go.RowKit

/-- The chain of the first k scopes, the innermost at p. -/
def ChainAt (w : World) (ns ts : List ByteArray) (fs : List Bool) : Nat → Option Addr → Prop
  | 0, p => p = none
  | k + 1, p => ∃ b par, p = some ⟨b, 0, none⟩ ∧ ScopeAt w b par (ns.getD k ByteArray.empty) (ts.getD k ByteArray.empty) (fs.getD k false) ∧ ChainAt w ns ts fs k par

theorem ChainAt.later {w w' : World} {ns ts : List ByteArray} {fs : List Bool} (hb : Below w.heap.size w w') : ∀ (k : Nat) (p : Option Addr), ChainAt w ns ts fs k p → ChainAt w' ns ts fs k p
  | 0, _, h => h
  | k + 1, _, ⟨b, par, h1, h2, h3⟩ => ⟨b, par, h1, h2.later hb, ChainAt.later hb k par h3⟩

structure CS (w0 : World) (ns ts : List ByteArray) (fs : List Bool) (k : Nat) (p : Option Addr) (w : World) : Prop where
  bel : Below w0.heap.size w0 w
  ch : ChainAt w ns ts fs k p

theorem CS.later {w0 w w' : World} {ns ts : List ByteArray} {fs : List Bool} {k : Nat} {p : Option Addr} (h : CS w0 ns ts fs k p w) (hb : Below w.heap.size w w') : CS w0 ns ts fs k p w' :=
  ⟨h.bel.trans (hb.mono h.bel.size), ChainAt.later hb k p h.ch⟩

set_option maxHeartbeats 2000000 in
set_option maxRecDepth 100000 in
theorem chain_any (a a' a'' : Option Addr) (n c n' c' n'' c'' : Nat) (ns ts : List ByteArray) (fs : List Bool) (w : World) (hn : n = ns.length) (hn' : n' = ts.length) (hn'' : n'' = fs.length) (hc : StrsAt w a ns) (hc' : StrsAt w a' ts) (hc'' : BoolsAt w a'' fs) :
    Calls Try.prog 8 #[.slice a n c, .slice a' n' c', .slice a'' n'' c''] w (AnsK true w) := by
  subst hn hn' hn''
  go_enter Try.func8, Try.ntmps8
  go_wp2_with fail
  refine (bytes24_any a a' a'' _ c _ c' _ c'' ns ts w rfl rfl hc hc').mono ?_
  rintro e w1 ⟨bb, rfl, hb, rfl⟩
  cases bb with
  | false =>
    go_wp2_with fail
    go_ret
    exact AnsK.mk rfl (Below.refl _ _)
  | true =>
    obtain ⟨hzn, hzt, hfl⟩ := hb rfl
    clear hb
    have hnl := hzn.1
    have htl := hzt.1
    go_wp2_with fail
    refine (sumStrs_any a _ c ns _ rfl hzn hc).mono ?_
    rintro e w2 ⟨z1, rfl, g1, g2, rfl⟩
    go_wp2_with fail
    refine (sumStrs_any a' _ c' ts _ rfl hzt hc').mono ?_
    rintro e w2 ⟨z2, rfl, g3, g4, rfl⟩
    by_cases hbig : 1048576 < z1 + z2 + fs.length
    · go_wp2_with fail
      go_ret
      exact AnsK.mk rfl (Below.refl _ _)
    go_wp2_with fail
    clear g1 g2 g3 g4 hbig
    have HZT := hid_of hzt.2
    clear hzn hzt
    refine (cloneStrs_any a _ c ns _ rfl hnl hc).mono ?_
    intro e w3 hcl
    obtain ⟨a1, c1, rfl, hs3, hcc1, hb3⟩ := hcl
    have hct3 := hc'.later hb3
    have hcf3 := hc''.later hb3
    have HB3 := hid_of hb3
    clear hc hc' hc'' hb3
    go_wp2_with fail
    refine (cloneStrs_any a' _ c' ts _ rfl htl hct3).mono ?_
    intro e w4 hcl
    obtain ⟨a2, c2, rfl, ht4, hcc2, hb4⟩ := hcl
    have hs4 := hs3.later hb4
    have hcf4 := hcf3.later hb4
    have HB4 : Hid (Below w2.heap.size w2 w4) := HB3.out.trans (hb4.mono HB3.out.size)
    clear hs3 hct3 hcf3 hb4 HB3
    go_wp2_with fail
    refine (cloneBools_any a'' _ c'' fs _ rfl hfl hcf4).mono ?_
    intro e w5 hcl
    obtain ⟨a3, c3, rfl, hf5, hb5⟩ := hcl
    have HS5 := hid_of (hs4.later hb5)
    have HT5 := hid_of (ht4.later hb5)
    have HF5 := hid_of hf5
    have HB5 : Hid (Below w2.heap.size w2 w5) := HB4.out.trans (hb5.mono HB4.out.size)
    clear hs4 ht4 hcf4 hf5 hb5 HB4
    go_wp2_with fail
    go_loopg [7, 8] (ns.length) (fun g sv ix wr => ∃ (k : Nat) (pa : Option Addr), k ≤ ns.length ∧ g = ns.length - k ∧ ix = .int .i64 k ∧ sv = .pointer pa ∧ Hid (CS w5 ns ts fs k pa wr))
    case atStart => exact ⟨0, none, Nat.zero_le _, rfl, rfl, rfl, ⟨Below.refl _ _, rfl⟩⟩
    case round =>
      obtain ⟨k, pa, hk, rfl, rfl, rfl, HC⟩ := hrel
      by_cases hlt : k < ns.length
      · obtain ⟨bn, on, han, hbn, hcell⟩ := HS5.out k hlt
        subst han
        have HBW : Hid (Below w5.heap.size w5 wr.drew) := HC.out.bel.drew
        have hcell' : wr.drew.cell? ⟨bn, on + k, none⟩ = some (.string (ns.getD k ByteArray.empty)) := by rw [HBW.out.cell (p := ⟨bn, on + k, none⟩) hbn]; exact hcell
        have HTX : Hid (StrsAt wr.drew a2 ts) := HT5.out.later HBW.out
        have HFX : Hid (BoolsAt wr.drew a3 fs) := HF5.out.later HBW.out
        clear hcell
        obtain ⟨nk, HNK⟩ : ∃ nk, Hid (ns.getD k ByteArray.empty = nk) := ⟨_, hid_of rfl⟩
        obtain ⟨tk, HTK⟩ : ∃ tk, Hid (ts.getD k ByteArray.empty = tk) := ⟨_, hid_of rfl⟩
        obtain ⟨fk, HFK⟩ : ∃ fk, Hid (fs.getD k false = fk) := ⟨_, hid_of rfl⟩
        rw [HNK.out] at hcell'
        have HT27 : Hid (Calls Try.prog 27 #[.slice a2 ts.length c2, .int .i64 k] wr.drew (fun e w' => e = .returned (.string tk) ∧ w' = wr.drew)) := by
          rw [← HTK.out]; exact textAt_any a2 _ c2 k ts wr.drew rfl HTX.out
        have HT28 : Hid (Calls Try.prog 28 #[.slice a3 fs.length c3, .int .i64 k] wr.drew (fun e w' => e = .returned (.bool fk) ∧ w' = wr.drew)) := by
          rw [← HFK.out]; exact faultAt_any a3 _ c3 k fs wr.drew rfl HFX.out
        clear HTX HFX
        have hi1 : (0 : Int) ≤ (k : Int) := by omega
        have hi2 : (k : Int) < (ns.length : Int) := by omega
        go_upto_region 14 with fail
        go_region_with (first | (go_at_call 27; refine HT27.out.mono ?_; rintro e w' ⟨rfl, rfl⟩) | (go_at_call 28; refine HT28.out.mono ?_; rintro e w' ⟨rfl, rfl⟩) | (go_at_call 26; refine (reserve_any pa nk tk fk _).mono ?_; rintro e w6 ⟨b6, rfl, hsc6, hb6⟩))
        all_goals (
          have HC6 : Hid (CS w5 ns ts fs (k + 1) (some ⟨b6, 0, none⟩) w6) := by
            have hA : Below wr.heap.size wr w6 := (Below.refl wr.heap.size wr).drew.trans hb6
            refine ⟨(HC.out.later hA).bel, b6, pa, rfl, ?_, (HC.out.later hA).ch⟩
            rw [HNK.out, HTK.out, HFK.out]
            exact hsc6
          clear hsc6 hb6 HC HT27 HT28 hcell' HBW
          go_wp2_with fail
          go_roundg (ns.length - (k + 1))
          case measure => omega
          case rel => exact ⟨k + 1, some ⟨b6, 0, none⟩, by omega, rfl, by go_num, rfl, HC6⟩)
      · have hke : k = ns.length := by omega
        subst hke
        obtain ⟨w7, hw7⟩ : ∃ w7, w7 = wr := ⟨_, rfl⟩
        subst hw7
        go_wp2_with fail
        go_loopg [9, 10] (ns.length) (fun g cv ix wr => ∃ (k : Nat) (pa : Option Addr), k ≤ ns.length ∧ g = k ∧ ix = .int .i64 ((k : Int) - 1) ∧ cv = .pointer pa ∧ Hid (CS w5 ns ts fs k pa wr))
        case atStart => exact ⟨ns.length, pa, Nat.le_refl _, rfl, by go_num, rfl, HC⟩
        case round =>
          clear HC hk hlt
          obtain ⟨k, pa, hk, hg, rfl, rfl, HC⟩ := hrel
          have hg' := hg.symm
          clear hg
          subst hg'
          cases k with
          | zero =>
            have hp : pa = none := HC.out.ch
            subst hp
            have HE : Hid (Below w2.heap.size w2 wr) := HB5.out.trans (HC.out.bel.mono HB5.out.size)
            clear HC
            go_wp2_with fail
            go_ret
            exact AnsK.mk rfl HE.out
          | succ j =>
            obtain ⟨b, par, hp, hsc, hch⟩ := HC.out.ch
            subst hp
            have HSC := hid_of hsc
            have HCH := hid_of hch
            have HBL := hid_of HC.out.bel
            clear hsc hch HC
            have hji : ((j + 1 : Nat) : Int) - 1 = (j : Int) := by omega
            rw [hji]
            clear hji
            go_wp2_with fail
            refine (imports_any wr b par _ _ _ HSC.out).mono ?_
            rintro e w8 ⟨rfl, hw8⟩
            subst hw8
            have hlt : j < ns.length := by omega
            obtain ⟨bn, on, han, hbn, hcell⟩ := HS5.out j hlt
            subst han
            have HBW : Hid (Below w5.heap.size w5 w8.drew) := HBL.out.drew
            have hcell' : w8.drew.cell? ⟨bn, on + j, none⟩ = some (.string (ns.getD j ByteArray.empty)) := by rw [HBW.out.cell (p := ⟨bn, on + j, none⟩) hbn]; exact hcell
            have HTX : Hid (StrsAt w8.drew a2 ts) := HT5.out.later HBW.out
            have HFX : Hid (BoolsAt w8.drew a3 fs) := HF5.out.later HBW.out
            clear hcell
            have HTS := hid_of (HZT.out j)
            obtain ⟨nk, HNK⟩ : ∃ nk, Hid (ns.getD j ByteArray.empty = nk) := ⟨_, hid_of rfl⟩
            obtain ⟨tk, HTK⟩ : ∃ tk, Hid (ts.getD j ByteArray.empty = tk) := ⟨_, hid_of rfl⟩
            obtain ⟨fk, HFK⟩ : ∃ fk, Hid (fs.getD j false = fk) := ⟨_, hid_of rfl⟩
            rw [HNK.out] at hcell'
            rw [HNK.out, HTK.out, HFK.out] at HSC
            rw [HTK.out] at HTS
            have HT27 : Hid (Calls Try.prog 27 #[.slice a2 ts.length c2, .int .i64 j] w8.drew (fun e w' => e = .returned (.string tk) ∧ w' = w8.drew)) := by
              rw [← HTK.out]; exact textAt_any a2 _ c2 j ts w8.drew rfl HTX.out
            have HT28 : Hid (Calls Try.prog 28 #[.slice a3 fs.length c3, .int .i64 j] w8.drew (fun e w' => e = .returned (.bool fk) ∧ w' = w8.drew)) := by
              rw [← HFK.out]; exact faultAt_any a3 _ c3 j fs w8.drew rfl HFX.out
            have HSD : Hid (ScopeAt w8.drew b par nk tk fk) := HSC.out.later (Below.refl _ _).drew
            have HT30 : Hid (Calls Try.prog 30 #[.pointer (some ⟨b, 0, none⟩), .string nk, .string tk, .bool fk] w8.drew (AnsK true w8.drew)) := own_any w8.drew b par nk tk fk HSD.out HTS.out
            clear HTX HFX
            have hi1 : (0 : Int) ≤ (j : Int) := by omega
            have hi2 : (j : Int) < (ns.length : Int) := by omega
            go_upto_region 23 with fail
            go_region_with (first | (go_at_call 27; refine HT27.out.mono ?_; rintro e w' ⟨rfl, rfl⟩) | (go_at_call 28; refine HT28.out.mono ?_; rintro e w' ⟨rfl, rfl⟩) | (go_at_call 30; refine HT30.out.mono ?_; rintro e w6 ⟨rfl, hb6⟩))
            all_goals (
              have hA : Below w8.heap.size w8 w6 := (Below.refl w8.heap.size w8).drew.trans hb6
              have HC6 : Hid (CS w5 ns ts fs j par w6) := CS.later ⟨HBL.out, HCH.out⟩ hA
              have HS6 : Hid (ScopeAt w6 b par nk tk fk) := HSC.out.later hA
              clear hA hb6 HT27 HT28 HT30 HSD HBL HCH HSC hcell' HBW
              go_wp2_with fail
              refine (parent_any w6 b par _ _ _ HS6.out).mono ?_
              rintro e w9 ⟨rfl, hw9⟩
              subst hw9
              go_wp2_with fail
              go_roundg j
              case measure => omega
              case rel => exact ⟨j, par, by omega, rfl, by go_num, rfl, HC6⟩)

end Go.Proofs.Qxb6600249a
