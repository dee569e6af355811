/-
  DERIVED, BY AN AI AGENT. Seat b6001106a: THE WALK of (*node).match (37), by induction on the path; ZZMatch (29).
-/
import Derived.Test.Qxb6001106aInsert
namespace Go.Proofs.Qxb6001106a
open Go.RowKit

/-- What (*node).match comes to. -/
def MatchPost (w : World) (r : Option Nat) (e : Ending) (w' : World) : Prop := e = .returned (ptrO r) ∧ Below w.heap.size w w'

theorem MatchPost.mk {w w' : World} {r : Option Nat} (h : Below w.heap.size w w') : MatchPost w r (.returned (ptrO r)) w' := ⟨rfl, h⟩
theorem MatchPost.miss {w w' : World} (h : Below w.heap.size w w') : MatchPost w none (.returned (.pointer none)) w' := ⟨rfl, h⟩
theorem MatchPost.hit {w w' : World} {r : Nat} (h : Below w.heap.size w w') : MatchPost w (some r) (.returned (.pointer (some ⟨r, 0, none⟩))) w' := ⟨rfl, h⟩

theorem match_nil (B0 : Nat) (w : World) (own : Own) (B : List Key → Nat) (N : Trie) (cnt : Nat) (p : List Key) (i : NI) (hI : Inv B0 w own B N cnt) (hp : N p = some i) (a : Option Addr) (c : Nat) :
    Calls Try.prog 37 #[.pointer (some ⟨B p, 0, none⟩), .slice a 0 c] w (MatchPost w (matchP N p [])) := by
  obtain ⟨c0, c1, c2, hat, _⟩ := hI.node p i hp
  have hc4 := hat.cell4
  have HM : Hid (matchP N p [] = i.route) := by show (N p).bind _ = _; rw [hp]; rfl
  clear hat hI hp
  obtain ⟨v, hv⟩ : ∃ v : Option Addr, ptrO i.route = .pointer v := ⟨_, rfl⟩
  rw [hv] at hc4
  have HV : Hid (ptrO i.route = .pointer v) := hv
  clear hv
  go_enter Try.func37, Try.ntmps37
  go_wp2
  go_ret
  refine ⟨?_, Below.refl _ _⟩
  rw [HM.out, HV.out]; rfl

def orP (a b : Option Nat) : Option Nat := match a with
  | some r => some r
  | none => b
theorem matchP_cons {N : Trie} {p : List Key} {i : NI} (hp : N p = some i) (t : ByteArray) (rest : List ByteArray) : matchP N p (t :: rest) =
    orP (if (N (p ++ [(1, bl t)])).isSome then matchP N (p ++ [(1, bl t)]) rest else none) (orP (mixedP (fun s => matchP N (p ++ [kindOf s]) rest) (bl t) i.mixed)
      (if (N (p ++ [(0, [])])).isSome ∧ bl t ≠ [] then matchP N (p ++ [(0, [])]) rest else none)) := by
  conv => lhs; unfold matchP
  rw [hp]; rfl

/-- The loop over the mixed children that are left. -/
theorem mixed_cons (f : List ByteArray → Option Nat) (t : List UInt8) (s : List ByteArray) (ss : List (List ByteArray)) : mixedP f t (s :: ss) = match (if matchesP (bls s) t then f s else none) with
    | some r => some r
    | none => mixedP f t ss := rfl

set_option maxHeartbeats 2000000 in
set_option maxRecDepth 100000 in
theorem match_any (B0 : Nat) (own : Own) (B : List Key → Nat) (N : Trie) (cnt : Nat) (hcnt : cnt ≤ 1073741824) : ∀ (path : List ByteArray) (w : World) (p : List Key) (i : NI) (a : Option Addr) (n c : Nat), Inv B0 w own B N cnt → N p = some i → n = path.length → path.length ≤ c → StrsAt w a path → Sz path → MaxOk w →
    Calls Try.prog 37 #[.pointer (some ⟨B p, 0, none⟩), .slice a n c] w (MatchPost w (matchP N p path)) := by
  intro path
  induction path with
  | nil =>
    intro w p i a n c hI hp hn _ _ _ _
    rw [hn]
    exact match_nil B0 w own B N cnt p i hI hp a c
  | cons t rest ih =>
    intro w p i a n c hI hp hn hnc hst hsz hM
    have HIH := hid_of ih
    clear ih
    subst hn
    obtain ⟨b, o, rfl, hb, hr⟩ := hst.row_at (by simp)
    have hc0 := hr 0 (by simp)
    rw [Nat.add_zero] at hc0
    have hc0' : w.cell? ⟨b, o, none⟩ = some (.string t) := hc0
    clear hc0
    have hlen := hsz.1
    have htz : t.size ≤ 1048576 := hsz.2 0
    have hszr : Sz rest := ⟨by simp at hlen; omega, fun j => hsz.2 (j + 1)⟩
    have hrl : (t :: rest).length = rest.length + 1 := rfl
    rw [hrl] at hnc ⊢
    have hnc0 := hid_of hnc
    have hrn : rest.length ≤ 1048576 := hszr.1
    go_enter Try.func37, Try.ntmps37
    go_upto_region 3 with fail
    go_cut [5, 6] (fun tx rs wr => tx = .string t ∧ ∃ a1, rs = .slice a1 rest.length (c - 1) ∧ StrsAt w a1 rest ∧ ∃ nq, wr = w.drewN nq)
    case first =>
      by_cases hc1 : c = 1
      · subst hc1
        have hr0 : rest = [] := List.eq_nil_of_length_eq_zero (by omega)
        subst hr0
        go_quiet (fail)
        go_wp2_with fail
        go_meet
        case rel => exact ⟨rfl, _, rfl, StrsAt.nil _ _, _, rfl⟩
      · have hrest : StrsAt w (some ⟨b, o + 1, none⟩) rest := fun j hj => ⟨b, o + 1, rfl, hb, by
          have := hr (j + 1) (by simp; omega)
          rw [show o + 1 + j = o + (j + 1) from by omega]; exact this⟩
        have HR := hid_of hrest
        clear hrest
        go_quiet (fail)
        go_wp2_with fail
        go_meet
        case rel => exact ⟨rfl, _, rfl, HR.out, _, rfl⟩
    case rest =>
      obtain ⟨rfl, a1, rfl, hst1, nq, rfl⟩ := hcut
      have hbl : Below w.heap.size w (w.drewN nq) := below_drewN (Below.refl _ _) nq
      have hI3 := hI.later hbl
      have hst3 := hst1.later hbl
      have hM3 := hM.later hbl
      have HBL := hid_of hbl
      clear hI hst1 hM hst hr hc0' hb hbl hsz hnc0
      generalize w.drewN nq = w3 at *
      obtain ⟨c0, c1, c2, hat, hown, hm0, hm2, hmix⟩ := hI3.node p i hp
      have hk0 := hat.cell0
      have hlk := hm0.lookup t
      simp only at hlk
      obtain ⟨q0, rfl⟩ : ∃ r, c0 = .map r := by
        rcases hm0 with ⟨rfl, _⟩ | ⟨m, _, _, rfl, _⟩
        · exact ⟨_, rfl⟩
        · exact ⟨_, rfl⟩
      clear hm0 hm2
      obtain ⟨lit, HLIT⟩ : ∃ lit, Hid (lit = if (N (p ++ [(1, bl t)])).isSome then matchP N (p ++ [(1, bl t)]) rest else none) := ⟨_, hid_of rfl⟩
      obtain ⟨cb, HCB⟩ : ∃ cb, Hid (childBlk B N (p ++ [(1, bl t)]) = cb) := ⟨_, hid_of rfl⟩
      rw [HCB.out] at hlk
      have hlk' : (Instr.lookup 54 (.map q0) (.string t) false).run Try.prog w3 = .ok (.pointer (cb.map fun b => ⟨b, 0, none⟩)) w3 := hlk
      clear hlk
      have HMT : Hid (matchP N p (t :: rest) = orP lit (orP (mixedP (fun s => matchP N (p ++ [kindOf s]) rest) (bl t) i.mixed) (if (N (p ++ [(0, [])])).isSome ∧ bl t ≠ [] then matchP N (p ++ [(0, [])]) rest else none))) := by
        rw [HLIT.out]; exact matchP_cons hp t rest
      have HSTR := hid_of hst3
      have HSZR := hid_of hszr
      have HM3 := hid_of hM3
      have HI3 := hid_of hI3
      have HAT := hid_of hat
      have HP := hid_of hp
      have HMIX := hid_of hmix
      clear hst3 hszr hM3 hI3 hat hp hown hmix
      go_upto_if 31 with fail
      go_cut [8] (fun _ wr => lit = none ∧ Below w3.heap.size w3 wr)
      case first =>
        cases cb with
        | none =>
          have hl0 : lit = none := by rw [HLIT.out, childBlk_none HCB.out]; rfl
          have HL := hid_of hl0
          clear hl0
          go_wp2_with fail
          go_meet
          case rel => exact ⟨HL.out, Below.refl _ _⟩
        | some b' =>
          obtain ⟨hb', j, hj⟩ := childBlk_some HCB.out
          have hl0 : lit = matchP N (p ++ [(1, bl t)]) rest := by rw [HLIT.out, hj]; rfl
          have HC := hid_of (HIH.out w3 (p ++ [(1, bl t)]) j a1 rest.length (c - 1) HI3.out hj rfl (by omega) HSTR.out HSZR.out HM3.out)
          rw [hb', ← hl0] at HC
          clear hb' hj hl0
          go_wp2_with fail
          refine HC.out.mono ?_
          rintro e w4 ⟨rfl, hb4⟩
          cases lit with
          | none =>
            unfold ptrO
            go_wp2_with fail
            go_meet
            case rel => exact ⟨trivial, hb4⟩
          | some r =>
            have HR : Hid (matchP N p (t :: rest) = some r) := HMT.out
            unfold ptrO
            go_wp2_with fail
            go_ret
            rw [HR.out]
            exact MatchPost.hit (HBL.out.trans (hb4.mono HBL.out.size))
      case rest =>
        obtain ⟨hlit, hbc⟩ := hcut
        have HMT2 : Hid (matchP N p (t :: rest) = orP (mixedP (fun s => matchP N (p ++ [kindOf s]) rest) (bl t) i.mixed) (if (N (p ++ [(0, [])])).isSome ∧ bl t ≠ [] then matchP N (p ++ [(0, [])]) rest else none)) := by
          rw [HMT.out, hlit]; rfl
        have HBC : Hid (Below w.heap.size w wc) := HBL.out.trans (hbc.mono HBL.out.size)
        have HIC := hid_of (HI3.out.later hbc)
        have HSTC := hid_of (HSTR.out.later hbc)
        have HMC := hid_of (HM3.out.later hbc)
        have HP2 := HP
        clear HMT HLIT HCB hlit hlk' hk0 HI3 HSTR HM3 HAT HMIX HBL
        obtain ⟨d0, d1, d2, hat, hown, hm0, hm2, hmix⟩ := HIC.out.node p i HP.out
        obtain ⟨xs, hrow, hog, hel⟩ := hmix
        obtain ⟨ma, mc, hd1⟩ : ∃ ma mc, d1 = .slice ma i.mixed.length mc := by
          rcases hrow.2 with ⟨h, h0⟩ | ⟨g, cap, _, h, _⟩
          · exact ⟨_, _, by rw [h, h0]⟩
          · exact ⟨_, _, h⟩
        subst hd1
        have hk1 := hat.cell1
        have hml := Nat.le_trans (HIC.out.count p i HP.out) hcnt
        have HROW := hid_of hrow
        have HEL := hid_of hel
        have HAT := hid_of hat
        clear hrow hel hat hog hm0 hm2 hown hbc
        go_wp2_with fail
        go_loopg [43] (i.mixed.length) (fun g ix wr => ∃ j : Nat, j ≤ i.mixed.length ∧ g = i.mixed.length - j ∧ ix = .int .i64 j ∧ Below wc.heap.size wc wr ∧ Hid (mixedP (fun s => matchP N (p ++ [kindOf s]) rest) (bl t) (i.mixed.drop j) = mixedP (fun s => matchP N (p ++ [kindOf s]) rest) (bl t) i.mixed))
        case atStart => exact ⟨0, Nat.zero_le _, rfl, rfl, Below.refl _ _, hid_of rfl⟩
        case round =>
          obtain ⟨j, hj, rfl, rfl, hbr, HMX⟩ := hrel
          by_cases hlt : j < i.mixed.length
          · obtain ⟨g, hma, hgl, hcells⟩ : ∃ g, ma = some ⟨g, 0, none⟩ ∧ g < wc.heap.size ∧ ∀ k u, xs[k]? = some u → wc.cell? ⟨g, k, none⟩ = some u := by
              rcases HROW.out.2 with ⟨h, h0⟩ | ⟨g, cap, cur, h, _, hh, _⟩
              · omega
              · cases h
                refine ⟨g, rfl, (Array.getElem?_eq_some_iff.1 hh).1, fun k u hk => ?_⟩
                have := HROW.out.cells (g := g) rfl k u hk
                rwa [Addr.add_lit, Nat.zero_add] at this
            subst hma
            obtain ⟨sj, hsj⟩ : ∃ sj, i.mixed[j]? = some sj := ⟨_, List.getElem?_eq_getElem hlt⟩
            obtain ⟨aj, cj, bj, x0, x1, hf, hseg, hs2⟩ := HEL.out j sj hsj
            have y0 : wr.cell? ⟨g, j * 2, none⟩ = some (.slice aj sj.length cj) := by rw [hbr.cell (p := ⟨g, j * 2, none⟩) hgl, Nat.mul_comm]; exact hcells _ _ x0
            have y1 : wr.cell? ⟨g, j * 2 + 1, none⟩ = some (.pointer (some ⟨bj, 0, none⟩)) := by rw [hbr.cell (p := ⟨g, j * 2 + 1, none⟩) hgl, Nat.mul_comm j 2]; exact hcells _ _ x1
            obtain ⟨bs, os, rfl, hbs, hrs⟩ := hseg.1.row_at (by omega)
            have HSEG := hid_of hseg
            have HF : Hid (childBlk B N (p ++ [kindOf sj]) = some bj) := hf
            have HSJ := hid_of hsj
            clear x0 x1 hcells hf hseg hsj
            have hba : Below wc.heap.size wc (wr.alloc (.cells #[.slice (some ⟨bs, os, none⟩) sj.length cj, .pointer (some ⟨bj, 0, none⟩)] 66)) := hbr.alloc hbr.size _
            have HBA := hid_of hba
            have hra : RowAt (wr.alloc (.cells #[.slice (some ⟨bs, os, none⟩) sj.length cj, .pointer (some ⟨bj, 0, none⟩)] 66)) bs os sj := fun k hk => by
              rw [hba.cell (p := ⟨bs, os + k, none⟩) hbs]; exact hrs k hk
            have HMAT := hid_of (matches_any bs os sj.length cj sj t _ rfl HSEG.out.2.1 (HMC.out.later hba) HSEG.out.2.2.1 (by omega) hs2 hra)
            have HDR : Hid (i.mixed.drop j = sj :: i.mixed.drop (j + 1)) := by
              rw [List.drop_eq_getElem_cons hlt]
              have := HSJ.out
              rw [List.getElem?_eq_getElem hlt] at this
              rw [Option.some.inj this]; rfl
            obtain ⟨hbj, ij, hij⟩ := childBlk_some HF.out
            have HC := hid_of (HIH.out (wr.alloc (.cells #[.slice (some ⟨bs, os, none⟩) sj.length cj, .pointer (some ⟨bj, 0, none⟩)] 66)) (p ++ [kindOf sj]) ij a1 rest.length (c - 1) (HIC.out.later hba) hij rfl (by omega) (HSTC.out.later hba) HSZR.out (HMC.out.later hba))
            rw [hbj] at HC
            have HWA : Hid (∀ k u, (#[Value.slice (some ⟨bs, os, none⟩) sj.length cj, Value.pointer (some ⟨bj, 0, none⟩)] : Array Value)[k]? = some u → (wr.alloc (.cells #[.slice (some ⟨bs, os, none⟩) sj.length cj, .pointer (some ⟨bj, 0, none⟩)] 66)).cell? ⟨wr.heap.size, k, none⟩ = some u) := fun k u hk => by
              simp only [World.cell?, show (wr.alloc (.cells #[.slice (some ⟨bs, os, none⟩) sj.length cj, .pointer (some ⟨bj, 0, none⟩)] 66)).heap[wr.heap.size]? = some (.cells #[.slice (some ⟨bs, os, none⟩) sj.length cj, .pointer (some ⟨bj, 0, none⟩)] 66) from heap_alloc_new wr _]
              exact hk
            clear hba hra hbj hij
            go_wp2_with fail
            refine HMAT.out.mono ?_
            rintro e w5 ⟨rfl, rfl⟩
            obtain ⟨m1, HM1⟩ : ∃ m1, Hid (matchesP (bls sj) (bl t) = m1) := ⟨_, hid_of rfl⟩
            rw [HM1.out]
            cases m1 with
            | false =>
              have HNX : Hid (mixedP (fun s => matchP N (p ++ [kindOf s]) rest) (bl t) (i.mixed.drop (j + 1)) = mixedP (fun s => matchP N (p ++ [kindOf s]) rest) (bl t) i.mixed) := by
                rw [← HMX.out, HDR.out, mixed_cons, HM1.out]; rfl
              go_wp2_with fail
              go_roundg (i.mixed.length - (j + 1))
              case measure => omega
              case rel => exact ⟨j + 1, by omega, rfl, by go_num, HBA.out, HNX⟩
            | true =>
              have z1 := HWA.out 1 _ rfl
              go_wp2_with fail
              refine HC.out.mono ?_
              rintro e w6 ⟨rfl, hb6⟩
              have hb6' : Below wc.heap.size wc w6 := HBA.out.trans (hb6.mono HBA.out.size)
              obtain ⟨r2, HR2⟩ : ∃ r2, Hid (matchP N (p ++ [kindOf sj]) rest = r2) := ⟨_, hid_of rfl⟩
              rw [HR2.out]
              cases r2 with
              | none =>
                have HNX : Hid (mixedP (fun s => matchP N (p ++ [kindOf s]) rest) (bl t) (i.mixed.drop (j + 1)) = mixedP (fun s => matchP N (p ++ [kindOf s]) rest) (bl t) i.mixed) := by
                  refine hid_of ?_
                  rw [← HMX.out, HDR.out, mixed_cons, HM1.out]
                  simp only [if_true, HR2.out]
                unfold ptrO
                go_wp2_with fail
                go_roundg (i.mixed.length - (j + 1))
                case measure => omega
                case rel => exact ⟨j + 1, by omega, rfl, by go_num, hb6', HNX⟩
              | some r =>
                have HR : Hid (matchP N p (t :: rest) = some r) := by
                  refine hid_of ?_
                  rw [HMT2.out, ← HMX.out, HDR.out, mixed_cons, HM1.out]
                  simp only [if_true, HR2.out]; rfl
                unfold ptrO
                go_wp2_with fail
                go_ret
                rw [HR.out]
                exact MatchPost.hit (HBC.out.trans (hb6'.mono HBC.out.size))
          · have HNX : Hid (matchP N p (t :: rest) = if (N (p ++ [(0, [])])).isSome ∧ bl t ≠ [] then matchP N (p ++ [(0, [])]) rest else none) := by
              rw [HMT2.out, ← HMX.out, List.drop_eq_nil_of_le (by omega)]; rfl
            have hk3 : wr.cell? ⟨B p, 3, none⟩ = some (.pointer ((childBlk B N (p ++ [(0, [])])).map fun b => ⟨b, 0, none⟩)) := by
              rw [hbr.cell (p := ⟨B p, 3, none⟩) HAT.out.lt]; exact HAT.out.cell3
            obtain ⟨cb3, HCB3⟩ : ∃ cb3, Hid (childBlk B N (p ++ [(0, [])]) = cb3) := ⟨_, hid_of rfl⟩
            rw [HCB3.out] at hk3
            cases cb3 with
            | none =>
              have HR : Hid (matchP N p (t :: rest) = none) := by
                rw [HNX.out, childBlk_none HCB3.out]; rfl
              go_wp2_with fail
              go_ret
              rw [HR.out]
              exact MatchPost.miss (HBC.out.trans (hbr.mono HBC.out.size))
            | some b3 =>
              obtain ⟨hb3, i3, hi3⟩ := childBlk_some HCB3.out
              cases hem : t.toList.isEmpty with
              | true =>
                have HR : Hid (matchP N p (t :: rest) = none) := by
                  rw [HNX.out, if_neg (fun h => h.2 ((bl_nil_iff t).2 hem))]; rfl
                clear hb3 hi3
                go_wp2_with fail
                go_ret
                rw [HR.out]
                exact MatchPost.miss (HBC.out.trans (hbr.mono HBC.out.size))
              | false =>
                have HR : Hid (matchP N p (t :: rest) = matchP N (p ++ [(0, [])]) rest) := by
                  rw [HNX.out, if_pos ⟨by rw [hi3]; rfl, fun h => by rw [(bl_nil_iff t).1 h] at hem; cases hem⟩]; rfl
                have HC := hid_of (HIH.out wr (p ++ [(0, [])]) i3 a1 rest.length (c - 1) (HIC.out.later hbr) hi3 rfl (by omega) (HSTC.out.later hbr) HSZR.out (HMC.out.later hbr))
                rw [hb3] at HC
                clear hb3 hi3
                go_wp2_with fail
                refine HC.out.mono ?_
                rintro e w6 ⟨rfl, hb6⟩
                have HB6 : Hid (Below w.heap.size w w6) := HBC.out.trans ((hbr.trans (hb6.mono hbr.size)).mono HBC.out.size)
                rw [← HR.out]
                go_wp2_with fail
                go_ret
                exact MatchPost.mk HB6.out

end Go.Proofs.Qxb6001106a
