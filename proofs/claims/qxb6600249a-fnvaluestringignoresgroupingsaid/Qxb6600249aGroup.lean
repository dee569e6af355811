/-
  DERIVED, BY AN AI AGENT. Seat b6600249a: THE WALK of FnValueStringIgnoresGrouping (4).
-/
import Derived.Test.Qxb6600249aCombs
import Derived.Deep.DeepCutAuto
import Derived.Deep.RegionWith
import Derived.Deep.QuietTactic
namespace Go.Proofs.Qxb6600249a
open Go.RowKit

set_option maxHeartbeats 4000000 in
set_option maxRecDepth 100000 in
theorem group_any (a : Option Addr) (n c : Nat) (ss : List ByteArray) (w : World) (hn : n = ss.length) (hc : StrsAt w a ss) :
    Calls Try.prog 4 #[.slice a n c] w (AnsK true w) := by
  subst hn
  go_enter Try.func4, Try.ntmps4
  go_wp2_with fail
  refine (bytes17_any a _ c ss w rfl hc).mono ?_
  rintro e w1 ⟨bb, rfl, hb, rfl⟩
  cases bb with
  | false =>
    go_wp2_with fail
    go_ret
    exact AnsK.mk rfl (Below.refl _ _)
  | true =>
    obtain ⟨hz, htot⟩ := hb rfl
    clear hb
    have hsl := hz.1
    go_wp2_with fail
    refine (sumStrs_any a _ c ss _ rfl hz hc).mono ?_
    rintro e w2 ⟨z1, rfl, g1, g2, rfl⟩
    by_cases hbig : 1048576 < z1
    · go_wp2_with fail
      go_ret
      exact AnsK.mk rfl (Below.refl _ _)
    go_wp2_with fail
    clear g1 g2 hbig
    refine (cloneStrs_any a _ c ss _ rfl hsl hc).mono ?_
    intro e w3 hcl
    obtain ⟨a1, c1, rfl, hs3, hc1, hb3⟩ := hcl
    have HB3 := hid_of hb3
    have HTOT := hid_of htot
    have HZ := hid_of hz.2
    clear hc hb3 hz htot
    go_wp2_with fail
    go_loopg [3, 4, 5, 6] (ss.length) (fun g lv ln al ix wr => ∃ (k : Nat) (L : List Lf), k ≤ ss.length ∧ g = ss.length - k ∧ ix = .int .i64 k ∧ L.length ≤ k ∧ (txt L).length ≤ tot (ss.take k) ∧ Hid (LS w3 L lv (L.map fun x => x.2.size) ln (txt L) al wr))
    case atStart => exact ⟨0, [], Nat.zero_le _, rfl, rfl, Nat.le_refl _, Nat.zero_le _, LS.start w3⟩
    case round =>
      obtain ⟨k, L, hk, rfl, rfl, hLk, htx, HL⟩ := hrel
      by_cases hlt : k < ss.length
      · obtain ⟨b, o, rfl, hb, hcell⟩ := hs3 k hlt
        have hcell' : wr.cell? ⟨b, o + k, none⟩ = some (.string (ss.getD k ByteArray.empty)) := by rw [HL.out.bel.cell (p := ⟨b, o + k, none⟩) hb]; exact hcell
        have htk := tot_snoc ss k hlt
        have htt := tot_take ss (k + 1)
        have hto := HTOT.out
        obtain ⟨t, HT⟩ : ∃ t, Hid (ss.getD k ByteArray.empty = t) := ⟨_, hid_of rfl⟩
        rw [HT.out] at hcell' htk
        clear hcell
        by_cases ht0 : t.toList = []
        · go_wp2_with fail
          go_roundg (ss.length - (k + 1))
          case measure => omega
          case rel => exact ⟨k + 1, L, by omega, rfl, by go_num, by omega, by omega, HL⟩
        · have hts : t.size ≠ 0 := fun e => ht0 ((toList_nil t).2 e)
          have hte : (!t.toList.isEmpty) = true := by
            cases h : t.toList with
            | nil => exact absurd h ht0
            | cons _ _ => rfl
          go_wp2_with fail
          refine (zzWhole_any t none 0 0 wr (Or.inl hts)).mono ?_
          rintro e w4 ⟨b4, rfl, _, hblk4, hbel4⟩
          have HL4 := hid_of (HL.out.later hbel4)
          have hlf4 : Leaf w4 (b4, t) := ⟨_, _, _, hblk4⟩
          have HLF4 := hid_of hlf4
          clear hblk4 hbel4 HL hlf4
          have HL5 : ∀ ob, Hid (LS w3 L u3 (L.map fun x => x.2.size) u4 (txt L) u5 (w4.alloc ob)) := fun ob => HL4.out.later ((Below.refl _ _).alloc (Nat.le_refl _) _)
          have hl1 : (L.map Lf.ptr).length ≤ 1073741824 := by simp; omega
          have hsz5 : ∀ ob, w3.heap.size ≤ (w4.alloc ob).heap.size := fun ob => (HL5 ob).out.bel.size
          have hcn : ∀ x ty, (w4.alloc (.cells #[x] ty)).cell? ⟨w4.heap.size, 0, none⟩ = some x := fun x ty => by
            simp only [World.cell?, heap_alloc_new]; rfl
          go_wp2_with (at_builtin; refine wp_app_row rfl _ _ 28 32 rfl Try.underlying28 Try.info32 w3.heap.size _ _ rfl (HL5 _).out.r1 ⟨_, 0, none⟩ 1 (Lf.ptr (b4, t)) rfl (hcn _ _) rfl hl1 (hsz5 _) ?_)
          intro v6 w6 hr6 hg6 _
          have HL6 := hid_of ((HL5 _).out.push1 (b4, t) (by
            obtain ⟨c2, c3, c4, e⟩ := HLF4.out
            exact ⟨c2, c3, c4, by rw [Below.heap_alloc _ _ _ (lt_of_block e)]; exact e⟩) hr6 hg6)
          clear hr6 hg6 HL5 HL4 HLF4 hcn hsz5
          have HL7 : ∀ ob, Hid (LS w3 (L ++ [(b4, t)]) v6 (L.map fun x => x.2.size) u4 (txt L) u5 (w6.alloc ob)) := fun ob => HL6.out.later ((Below.refl _ _).alloc (Nat.le_refl _) _)
          have hl2 : ((L.map fun x => x.2.size).map num).length ≤ 1073741824 := by simp; omega
          have hsz7 : ∀ ob, w3.heap.size ≤ (w6.alloc ob).heap.size := fun ob => (HL7 ob).out.bel.size
          have hcn : ∀ x ty, (w6.alloc (.cells #[x] ty)).cell? ⟨w6.heap.size, 0, none⟩ = some x := fun x ty => by
            simp only [World.cell?, heap_alloc_new]; rfl
          go_wp2_with (at_builtin; refine wp_app_row rfl _ _ 29 3 rfl Try.underlying29 Try.info3 w3.heap.size _ _ rfl (HL7 _).out.r2 ⟨_, 0, none⟩ 1 (num t.size) rfl (hcn _ _) rfl hl2 (hsz7 _) ?_)
          intro v8 w8 hr8 hg8 _
          have HL8 := hid_of ((HL7 _).out.push2 t.size (by simpa using hr8) hg8)
          clear hr8 hg8 HL7 HL6 hcn hsz7
          have hsz8 := HL8.out.bel.size
          go_wp2_with (at_builtin; refine wp_app_str rfl _ _ rfl w3.heap.size _ (txt L) t HL8.out.r3 rfl rfl (by omega) hsz8 ?_)
          intro v9 w9 hr9 hg9
          have HL9 := hid_of (HL8.out.push3 t hr9 hg9)
          clear hr9 hg9 HL8
          have e1 : ((L ++ [(b4, t)] : List Lf).map fun x => x.2.size) = (L.map fun x => x.2.size) ++ [t.size] := by simp
          have e2 := txt_snoc L (b4, t)
          have e3 : (txt (L ++ [(b4, t)])).length = (txt L).length + t.size := by rw [e2, List.length_append, bl_length]
          rw [← e1, ← e2] at HL9
          go_wp2_with fail
          go_roundg (ss.length - (k + 1))
          case measure => omega
          case rel => exact ⟨k + 1, L ++ [(b4, t)], by omega, rfl, by go_num, by simp; omega, by omega, HL9⟩
      · have htt := tot_take ss k
        have hto := HTOT.out
        have HLL : Hid (L.length ≤ 1048576 ∧ (txt L).length ≤ 1048576) := ⟨by omega, by omega⟩
        have hstr := run_string_buf HL.out.r3
        have hke : k = ss.length := by omega
        have HBL : Hid (Below w2.heap.size w2 wr) := HB3.out.trans (HL.out.bel.mono HB3.out.size)
        have HLF : Hid (∀ x ∈ L, Leaf wr x) := HL.out.leaf
        by_cases hL : L = []
        · subst hL
          obtain ⟨la, lc, rfl⟩ := HL.out.r1.len
          simp only [List.map_nil, List.length_nil] at *
          have hstr' : ∀ w : World, (w = wr) → (convert 23 9 u5).run Try.prog w = .ok (.string ⟨#[]⟩) w := fun w e => by subst e; exact hstr
          have hstr2 := hstr' wr rfl
          clear hstr hstr' HL HLF
          have HF := hid_of (V3.start wr (.pointer none) (.pointer none) (.pointer none))
          go_wp2_with fail
          generalize (((wr.alloc (.cells #[.pointer none] 32)).alloc (.cells #[.pointer none] 32)).alloc (.cells #[.pointer none] 32)) = w5 at *
          refine (string_nil _).mono ?_
          rintro e7 w7 ⟨rfl, hb7⟩
          have HF7 := hid_of (HF.out.later hb7)
          clear HF hb7
          have hl1 := cell_one HF7.out.c1
          go_wp2_with fail
          refine (string_nil _).mono ?_
          rintro e8 w8 ⟨rfl, hb8⟩
          have HF8 := hid_of (HF7.out.later hb8)
          clear HF7 hb8
          have hl2 : w8.cell? ⟨wr.heap.size + 1 + 1, 0, none⟩ = some (.pointer none) := cell_one HF8.out.c2
          go_wp2_with fail
          refine (string_nil _).mono ?_
          rintro e9 w9 ⟨rfl, hb9⟩
          have HF9 := hid_of (HF8.out.later hb9)
          clear HF8 hb9
          go_wp2_with fail
          go_ret
          exact AnsK.mk rfl (HBL.out.trans (HF9.out.bel.mono HBL.out.size))
        · obtain ⟨g3, cap3, rfl, _, hg3, hcap3, hc3⟩ := HL.out.r1.shape (by simpa using hL)
          obtain ⟨g4, cap4, rfl, _, hg4, hcap4, hc4⟩ := HL.out.r2.shape (by simpa using hL)
          simp only [List.length_map] at hcap3 hcap4 hc3 hc4
          have HC3 : Hid (∀ j, j < L.length → wr.cell? ⟨g3, j, none⟩ = some (Lf.ptr (L.getD j (0, ByteArray.empty)))) := fun j hj => by
            rw [hc3 j hj]; simp [hj, List.getD_eq_getElem?_getD]
          have HC4 : Hid (∀ j, j < L.length → wr.cell? ⟨g4, j, none⟩ = some (num (L.getD j (0, ByteArray.empty)).2.size)) := fun j hj => by
            rw [hc4 j hj]; simp [hj, List.getD_eq_getElem?_getD]
          have hL0 : 0 < L.length := List.length_pos_iff.2 hL
          obtain ⟨tx, HTX⟩ : ∃ tx, Hid (txt L = tx) := ⟨_, hid_of rfl⟩
          obtain ⟨nL, HNL⟩ : ∃ nL, Hid (L.length = nL) := ⟨_, hid_of rfl⟩
          rw [HTX.out] at hstr
          simp only [List.length_map] at *
          rw [HNL.out] at hL0 hcap3 hcap4 ⊢
          have H1 : Hid (Below w3.heap.size w3 wr) := HL.out.bel
          have hnl : nL ≤ 1048576 := by have := HLL.out.1; rw [HNL.out] at this; exact this
          clear HL hc3 hc4 hke htx htt hto hLk hk
          obtain ⟨w1, hw1⟩ : ∃ w1, w1 = wr := ⟨_, rfl⟩
          subst hw1
          have hab : ∀ o1 o2 o3, Below w1.heap.size w1 (((w1.alloc o1).alloc o2).alloc o3) := fun o1 o2 o3 => (((Below.refl _ _).alloc (Nat.le_refl _) _).alloc (by simp) _).alloc (by simp; omega) _
          have hc30 : ∀ o1 o2 o3, (((w1.alloc o1).alloc o2).alloc o3).cell? ⟨g3, 0, none⟩ = some (.pointer (some ⟨(L.getD 0 (0, ByteArray.empty)).1, 0, none⟩)) := fun o1 o2 o3 => by
            rw [(hab o1 o2 o3).cell (p := ⟨g3, 0, none⟩) hg3]; exact HC3.out 0 (by rw [HNL.out]; exact hL0)
          have hc40 : ∀ o1 o2 o3, (((w1.alloc o1).alloc o2).alloc o3).cell? ⟨g4, 0, none⟩ = some (.int .i64 (L.getD 0 (0, ByteArray.empty)).2.size) := fun o1 o2 o3 => by
            rw [(hab o1 o2 o3).cell (p := ⟨g4, 0, none⟩) hg4]; exact HC4.out 0 (by rw [HNL.out]; exact hL0)
          have HX0 : Hid ((L.getD 0 (0, ByteArray.empty)) ∈ L ∧ txt (L.take 1) = bl (L.getD 0 (0, ByteArray.empty)).2) := by
            cases L with
            | nil => exact absurd rfl hL
            | cons x r => exact ⟨List.mem_cons_self, by simp [txt]⟩
          have HC30 : Hid (w1.cell? ⟨g3, 0, none⟩ = some (.pointer (some ⟨(L.getD 0 (0, ByteArray.empty)).1, 0, none⟩))) := HC3.out 0 (by rw [HNL.out]; exact hL0)
          generalize L.getD 0 (0, ByteArray.empty) = x0 at *
          obtain ⟨b0, t0⟩ := x0
          simp only at hc30 hc40
          have HTL : Hid (∀ k, (txt (L.take k)).length ≤ 1048576 ∧ (txt (L.drop k)).length ≤ 1048576) := fun k => by have := txt_split L k; have := HLL.out.2; omega
          go_wp2_with fail
          clear hlt
          go_loopg [13, 14] (nL - 1) (fun g sz ix wr => ∃ (k m kk : Nat) (p : Value), 1 ≤ k ∧ k ≤ nL ∧ g = nL - k ∧ ix = .int .i64 k ∧ sz = .int .i64 m ∧ kk ≤ 6 * k ∧ Hid (m = (txt (L.take k)).length) ∧ Hid (V3 w1 p (.pointer none) (.pointer none) wr ∧ IsV wr (var3 w1.heap.size) p (txt (L.take k)) kk))
          case atStart =>
            refine ⟨1, t0.size, 1, _, Nat.le_refl _, by omega, rfl, rfl, rfl, by omega, hid_of ?_, V3.start w1 _ _ _, ?_⟩
            · rw [HX0.out.2, bl_length]
            · rw [HX0.out.2]
              exact ((HLF.out _ HX0.out.1).later (hab _ _ _)).isV (fun e => by have := (HLF.out _ HX0.out.1).lt; unfold var3 at e; omega)
          case round =>
            obtain ⟨k, m, kk, p, hk1, hk2, rfl, rfl, rfl, hkk, HM, HV⟩ := hrel
            by_cases hlt : k < nL
            · have hc3k : wr.cell? ⟨g3, k, none⟩ = some (Lf.ptr (L.getD k (0, ByteArray.empty))) := by
                rw [HV.out.1.bel.cell (p := ⟨g3, k, none⟩) hg3]; exact HC3.out k (by rw [HNL.out]; exact hlt)
              have hc4k : wr.cell? ⟨g4, k, none⟩ = some (num (L.getD k (0, ByteArray.empty)).2.size) := by
                rw [HV.out.1.bel.cell (p := ⟨g4, k, none⟩) hg4]; exact HC4.out k (by rw [HNL.out]; exact hlt)
              have HXK := hid_of (txt_take L k (by rw [HNL.out]; exact hlt))
              generalize L.getD k (0, ByteArray.empty) = xk at *
              obtain ⟨bk, tk⟩ := xk
              unfold Lf.ptr at hc3k
              unfold num at hc4k
              simp only at hc3k hc4k
              obtain ⟨bp, rfl, hnp⟩ := HV.out.2
              have hcp := cell_one HV.out.1.c0
              have hfp := frozen_one HV.out.1.c0
              have HLT := hid_of hlt
              have hmb : m + tk.size ≤ 1048576 := by
                have := (HTL.out (k + 1)).1
                rw [HXK.out.2.1, List.length_append, bl_length, ← HM.out] at this
                exact this
              go_upto_region 29 with fail
              go_region_with (go_at_call 18; refine (zzNode_any _ 2 2 (m + tk.size) _).mono ?_; rintro e w6 ⟨b6, rfl, hb6, hblk6, hbel6⟩; have hA := after_pair HV.out.1 hbel6; have hcl := cell_one hA.1.c0; have hfl := frozen_one hA.1.c0; clear hA)
              all_goals (
                have HNV : Hid (V3 w1 (.pointer (some ⟨b6, 0, none⟩)) (.pointer none) (.pointer none) (w6.setCell ⟨w1.heap.size, 0, none⟩ (.pointer (some ⟨b6, 0, none⟩))) ∧ IsV (w6.setCell ⟨w1.heap.size, 0, none⟩ (.pointer (some ⟨b6, 0, none⟩))) (var3 w1.heap.size) (.pointer (some ⟨b6, 0, none⟩)) (txt (L.take (k + 1))) (kk + 1 + 4)) := by
                  have hlf := HLF.out _ HXK.out.1
                  have hlfv : IsV wr (var3 w1.heap.size) (Lf.ptr (bk, tk)) (bl tk) 1 := (hlf.later HV.out.1.bel).isV (fun e => by have := hlf.lt; unfold var3 at e; omega)
                  have hi := pair_round HV.out.1 HV.out.2 hlfv hb6 hblk6 hbel6 (by omega)
                  rw [HXK.out.2.1]
                  exact ⟨(after_pair HV.out.1 hbel6).1.set0, hi.set (by unfold var3; omega)⟩
                have HNM : Hid (m + tk.size = (txt (L.take (k + 1))).length) := by
                  rw [HXK.out.2.1, List.length_append, bl_length, ← HM.out]; exact hid_of rfl
                clear hb6 hblk6 hbel6 HV HXK HM
                go_wp2_with fail
                go_roundg (nL - (k + 1))
                case measure => (have := HLT.out; omega)
                case rel => exact ⟨k + 1, m + tk.size, kk + 1 + 4, _, by omega, HLT.out, rfl, by go_num, by go_num, by omega, HNM, HNV⟩)
            · have hke : k = nL := by omega
              subst hke
              have HTA : Hid (txt (L.take k) = tx) := by
                rw [List.take_of_length_le (by rw [HNL.out]; exact Nat.le_refl _)]; exact HTX.out
              rw [HTA.out] at HV
              obtain ⟨e, rfl⟩ : ∃ e, k = e + 1 := ⟨k - 1, by omega⟩
              have hc3k : ∀ v, (wr.setCell ⟨w1.heap.size + 1, 0, none⟩ v).cell? ⟨g4, e, none⟩ = some (num (L.getD e (0, ByteArray.empty)).2.size) := fun v => by
                rw [HV.out.1.set1.bel.cell (p := ⟨g4, e, none⟩) hg4]; exact HC4.out e (by rw [HNL.out]; omega)
              have hc4k : wr.cell? ⟨g3, e, none⟩ = some (Lf.ptr (L.getD e (0, ByteArray.empty))) := by
                rw [HV.out.1.bel.cell (p := ⟨g3, e, none⟩) hg3]; exact HC3.out e (by rw [HNL.out]; omega)
              have HXE := hid_of (txt_take L e (by rw [HNL.out]; omega))
              generalize L.getD e (0, ByteArray.empty) = xe at *
              obtain ⟨be, te⟩ := xe
              unfold Lf.ptr at hc4k
              unfold num at hc3k
              simp only at hc3k hc4k
              have hcq := cell_one HV.out.1.c1
              have hfq := frozen_one HV.out.1.c1
              clear hL0
              go_wp2_with fail
              go_loopg [13, 15] (e) (fun g sz ix wr => ∃ (d m k3 : Nat) (q : Value), d ≤ e ∧ g = d ∧ ix = .int .i64 ((d : Int) - 1) ∧ sz = .int .i64 m ∧ k3 + 6 * d ≤ 6 * (e + 1) ∧ Hid (m = (txt (L.drop d)).length) ∧ Hid (V3 w1 p q (.pointer none) wr ∧ IsV wr (var3 w1.heap.size) p tx kk ∧ IsV wr (var3 w1.heap.size) q (txt (L.drop d)) k3))
              case atStart =>
                have hd : txt (L.drop e) = bl te := by
                  rw [HXE.out.2.2, List.drop_eq_nil_of_le (by rw [HNL.out]; exact Nat.le_refl _)]; simp [txt]
                refine ⟨e, te.size, 1, _, Nat.le_refl _, rfl, by go_num, rfl, by omega, hid_of ?_, HV.out.1.set1, HV.out.2.set (by unfold var3; omega), ?_⟩
                · rw [hd, bl_length]
                · rw [hd]
                  exact ((HLF.out _ HXE.out.1).later HV.out.1.set1.bel).isV (fun e => by have := (HLF.out _ HXE.out.1).lt; unfold var3 at e; omega)
              case round =>
                clear HV HXE HM hc3k hc4k hcq hfq
                obtain ⟨d, m3, k3, q, hd, hgd, rfl, rfl, hk3, HM, HV⟩ := hrel
                have hgd' := hgd.symm
                clear hgd
                subst hgd'
                cases d with
                | succ f =>
                  have hix : ((f + 1 : Nat) : Int) - 1 = (f : Int) := by omega
                  rw [hix]
                  have hc3k : wr.cell? ⟨g3, f, none⟩ = some (Lf.ptr (L.getD f (0, ByteArray.empty))) := by
                    rw [HV.out.1.bel.cell (p := ⟨g3, f, none⟩) hg3]; exact HC3.out f (by rw [HNL.out]; omega)
                  have hc4k : wr.cell? ⟨g4, f, none⟩ = some (num (L.getD f (0, ByteArray.empty)).2.size) := by
                    rw [HV.out.1.bel.cell (p := ⟨g4, f, none⟩) hg4]; exact HC4.out f (by rw [HNL.out]; omega)
                  have HXK := hid_of (txt_take L f (by rw [HNL.out]; omega))
                  generalize L.getD f (0, ByteArray.empty) = xk at *
                  obtain ⟨bk, tk⟩ := xk
                  unfold Lf.ptr at hc3k
                  unfold num at hc4k
                  simp only at hc3k hc4k
                  obtain ⟨bp, rfl, hnp⟩ := HV.out.2.2
                  have hcp := cell_one HV.out.1.c1
                  have hfp := frozen_one HV.out.1.c1
                  have hmb : m3 + tk.size ≤ 1048576 := by
                    have h1 := HM.out
                    have h2 := (HTL.out f).2
                    rw [HXK.out.2.2, List.length_append, bl_length] at h2
                    simp only at h2
                    omega
                  go_upto_region 36 with fail
                  go_region_with (go_at_call 18; refine (zzNode_any _ 2 2 (m3 + tk.size) _).mono ?_; rintro e w6 ⟨b6, rfl, hb6, hblk6, hbel6⟩; have hA := after_pair HV.out.1 hbel6; have hcl := cell_one hA.1.c1; have hfl := frozen_one hA.1.c1; clear hA)
                  all_goals (
                    have HNV : Hid (V3 w1 p (.pointer (some ⟨b6, 0, none⟩)) (.pointer none) (w6.setCell ⟨w1.heap.size + 1, 0, none⟩ (.pointer (some ⟨b6, 0, none⟩))) ∧ IsV (w6.setCell ⟨w1.heap.size + 1, 0, none⟩ (.pointer (some ⟨b6, 0, none⟩))) (var3 w1.heap.size) p tx kk ∧ IsV (w6.setCell ⟨w1.heap.size + 1, 0, none⟩ (.pointer (some ⟨b6, 0, none⟩))) (var3 w1.heap.size) (.pointer (some ⟨b6, 0, none⟩)) (txt (L.drop f)) (1 + k3 + 4)) := by
                      have hlf := HLF.out _ HXK.out.1
                      have hlfv : IsV wr (var3 w1.heap.size) (Lf.ptr (bk, tk)) (bl tk) 1 := (hlf.later HV.out.1.bel).isV (fun e => by have := hlf.lt; unfold var3 at e; omega)
                      have hi := pair_round HV.out.1 hlfv HV.out.2.2 hb6 hblk6 hbel6 (by omega)
                      rw [HXK.out.2.2]
                      exact ⟨(after_pair HV.out.1 hbel6).1.set1, (HV.out.2.1.later (after_pair HV.out.1 hbel6).2).set (by unfold var3; omega), hi.set (by unfold var3; omega)⟩
                    have HNM : Hid (m3 + tk.size = (txt (L.drop f)).length) := by
                      have h1 := HM.out
                      have h2 := congrArg List.length HXK.out.2.2
                      rw [List.length_append, bl_length] at h2
                      exact hid_of (by omega)
                    clear hb6 hblk6 hbel6 HV HXK HM
                    go_wp2_with fail
                    go_roundg (f)
                    case measure => omega
                    case rel => exact ⟨f, m3 + tk.size, 1 + k3 + 4, _, by omega, rfl, by go_num, by go_num, by omega, HNM, HNV⟩)
                | zero =>
                  have HTD : Hid (txt (L.drop 0) = tx) := by rw [List.drop_zero]; exact HTX.out
                  rw [HTD.out] at HV
                  have hk4 : k3 ≤ 6 * (e + 1) := by omega
                  have hts : tx.length ≤ 1073741824 := by have := HLL.out.2; rw [HTX.out] at this; omega
                  have hcr : wr.cell? ⟨w1.heap.size + 1 + 1, 0, none⟩ = some (.pointer none) := cell_one HV.out.1.c2
                  have hfr : wr.frozen? ⟨w1.heap.size + 1 + 1, 0, none⟩ = false := frozen_one HV.out.1.c2
                  have hc30' : wr.cell? ⟨g3, 0, none⟩ = some (.pointer (some ⟨b0, 0, none⟩)) := by
                    rw [HV.out.1.bel.cell (p := ⟨g3, 0, none⟩) hg3]; exact HC30.out
                  cases e with
                  | zero =>
                    have HF : Hid (V3 w1 p q (.pointer (some ⟨b0, 0, none⟩)) (wr.setCell ⟨w1.heap.size + 1 + 1, 0, none⟩ (.pointer (some ⟨b0, 0, none⟩))) ∧ IsV (wr.setCell ⟨w1.heap.size + 1 + 1, 0, none⟩ (.pointer (some ⟨b0, 0, none⟩))) (var3 w1.heap.size) p tx kk ∧ IsV (wr.setCell ⟨w1.heap.size + 1 + 1, 0, none⟩ (.pointer (some ⟨b0, 0, none⟩))) (var3 w1.heap.size) q tx k3 ∧ IsV (wr.setCell ⟨w1.heap.size + 1 + 1, 0, none⟩ (.pointer (some ⟨b0, 0, none⟩))) (var3 w1.heap.size) (.pointer (some ⟨b0, 0, none⟩)) tx 1) := by
                      have hvr : var3 w1.heap.size (w1.heap.size + 1 + 1) := by unfold var3; omega
                      have hlf := HLF.out _ HX0.out.1
                      have hlfv : IsV wr (var3 w1.heap.size) (Lf.ptr (b0, t0)) (bl t0) 1 := (hlf.later HV.out.1.bel).isV (fun e => by have := hlf.lt; unfold var3 at e; omega)
                      have h1 : bl t0 = tx := by
                        rw [← HTX.out, ← HX0.out.2, List.take_of_length_le (by rw [HNL.out]; omega)]
                      rw [h1] at hlfv
                      exact ⟨HV.out.1.set2, HV.out.2.1.set hvr, HV.out.2.2.set hvr, hlfv.set hvr⟩
                    clear HV
                    have hl0 := cell_one HF.out.1.c0
                    have hl1 := cell_one HF.out.1.c1
                    have hl2 : (wr.setCell ⟨w1.heap.size + 1 + 1, 0, none⟩ (.pointer (some ⟨b0, 0, none⟩))).cell? ⟨w1.heap.size + 1 + 1, 0, none⟩ = some (.pointer (some ⟨b0, 0, none⟩)) := cell_one HF.out.1.c2
                    obtain ⟨bp, rfl, hnp⟩ := HF.out.2.1
                    obtain ⟨bq, rfl, hnq⟩ := HF.out.2.2.1
                    have HNP := hid_of hnp.free
                    have HBF : Hid (Below w2.heap.size w2 (wr.setCell ⟨w1.heap.size + 1 + 1, 0, none⟩ (.pointer (some ⟨b0, 0, none⟩)))) := HBL.out.trans (HF.out.1.bel.mono HBL.out.size)
                    clear hnp hnq
                    go_wp2_with fail
                    refine (string_any _ bp tx kk HNP.out hts (by omega)).mono ?_
                    rintro e7 w7 ⟨rfl, hb7⟩
                    have HF7 := hid_of (And.intro (HF.out.1.later hb7) (And.intro (HF.out.2.2.1.later hb7) (HF.out.2.2.2.later hb7)))
                    have HBF7 : Hid (Below w2.heap.size w2 w7) := HBF.out.trans (hb7.mono HBF.out.size)
                    clear HF hb7 HBF HNP hl0 hl1 hl2
                    have hl1 := cell_one HF7.out.1.c1
                    have hl2 : w7.cell? ⟨w1.heap.size + 1 + 1, 0, none⟩ = some (.pointer (some ⟨b0, 0, none⟩)) := cell_one HF7.out.1.c2
                    obtain ⟨bq', hbq, hnq⟩ := HF7.out.2.1
                    cases hbq
                    have HNQ := hid_of hnq.free
                    clear hnq
                    go_wp2_with fail
                    refine (string_any _ bq tx k3 HNQ.out hts (by omega)).mono ?_
                    rintro e8 w8 ⟨rfl, hb8⟩
                    have HF8 := hid_of (And.intro (HF7.out.1.later hb8) (HF7.out.2.2.later hb8))
                    have HBF8 : Hid (Below w2.heap.size w2 w8) := HBF7.out.trans (hb8.mono HBF7.out.size)
                    clear HF7 hb8 HBF7 HNQ hl1 hl2
                    have hl2 : w8.cell? ⟨w1.heap.size + 1 + 1, 0, none⟩ = some (.pointer (some ⟨b0, 0, none⟩)) := cell_one HF8.out.1.c2
                    obtain ⟨br', hbr, hnr⟩ := HF8.out.2
                    cases hbr
                    have HNR := hid_of hnr.free
                    clear hnr
                    go_wp2_with fail
                    refine (string_any _ _ tx 1 HNR.out hts (by omega)).mono ?_
                    rintro e9 w9 ⟨rfl, hb9⟩
                    have HBF9 : Hid (Below w2.heap.size w2 w9) := HBF8.out.trans (hb9.mono HBF8.out.size)
                    clear HF8 hb9 HBF8 HNR hl2
                    go_wp2_with fail
                    go_ret
                    exact AnsK.mk rfl HBF9.out
                  | succ e =>
                    have hmk := run_make32 (e + 1 + 1) (by omega)
                    obtain ⟨w5, hw5⟩ : ∃ w5, w5 = wr := ⟨_, rfl⟩
                    subst hw5
                    have hne1 : ((e : Int) + 1 + 1 == 1) = false := by rw [beq_eq_false_iff_ne]; omega
                    have hmk' : ∀ w : World, Sem.run Try.prog (Instr.makeSlice 28 (.int .i64 ((e : Int) + 1 + 1)) (.int .i64 ((e : Int) + 1 + 1))) w = .ok (.slice (some ⟨w.heap.size, 0, none⟩) (e + 1 + 1) (e + 1 + 1)) (w.alloc (.cells (madeCells #[.pointer none] (e + 1 + 1)) 32)) := fun w => by
                      have := hmk w
                      simpa using this
                    go_wp2_with fail
                    go_loopg [17] (e + 1 + 1) (fun g ix wq => ∃ k : Nat, k ≤ e + 1 + 1 ∧ g = e + 1 + 1 - k ∧ ix = .int .i64 k ∧ Below w5.heap.size w5 wq ∧ wq.rowIs w5.heap.size 32 (e + 1 + 1) (fun j => if j < k then Lf.ptr (L.getD j (0, ByteArray.empty)) else .pointer none))
                    case atStart => exact ⟨0, Nat.zero_le _, rfl, rfl, (Below.refl _ _).alloc (Nat.le_refl _) _, (World.rowIs_made _ _ _ _).congr (fun i _ => by simp)⟩
                    case round =>
                      obtain ⟨k, hk, rfl, rfl, hbq, hrow⟩ := hrel
                      have hV5 := HV.out.1.later hbq
                      by_cases hlt : k < e + 1 + 1
                      · have hfr2 := hrow.frozen k
                        have hck := hrow.cell hlt
                        rw [if_neg (Nat.lt_irrefl _)] at hck
                        have hc3k : wr.cell? ⟨g3, k, none⟩ = some (Lf.ptr (L.getD k (0, ByteArray.empty))) := by
                          rw [hV5.bel.cell (p := ⟨g3, k, none⟩) hg3]; exact HC3.out k (by rw [HNL.out]; exact hlt)
                        unfold Lf.ptr at hc3k
                        go_wp2_with fail
                        go_roundg (e + 1 + 1 - (k + 1))
                        case measure => omega
                        case rel =>
                          refine ⟨k + 1, hlt, rfl, by go_num, hbq.setCell (Nat.le_refl _) _, (hrow.set k _).congr (fun i _ => ?_)⟩
                          by_cases e1 : i = k
                          · subst e1; simp [Lf.ptr]
                          · by_cases e2 : i < k
                            · rw [if_neg e1, if_pos e2, if_pos (by omega)]
                            · rw [if_neg e1, if_neg e2, if_neg (by omega)]
                      · have hke : k = e + 1 + 1 := by omega
                        subst hke
                        have HR := hid_of (hrow.congr (g := fun j => Lf.ptr (L.getD j (0, ByteArray.empty))) (fun i hi => by rw [if_pos hi]))
                        have HBQ := hid_of hbq
                        clear hrow hbq
                        go_wp2_with fail
                        refine (zzNode_any _ (e + 1 + 1) (e + 1 + 1) tx.length _).mono ?_
                        rintro e6 w6 ⟨b6, rfl, hb6, hblk6, hbel6⟩
                        have hV6 := hV5.later hbel6
                        have hcr6 : w6.cell? ⟨w1.heap.size + 1 + 1, 0, none⟩ = some (.pointer none) := cell_one hV6.c2
                        have hfr6 : w6.frozen? ⟨w1.heap.size + 1 + 1, 0, none⟩ = false := frozen_one hV6.c2
                        have HF : Hid (V3 w1 p q (.pointer (some ⟨b6, 0, none⟩)) (w6.setCell ⟨w1.heap.size + 1 + 1, 0, none⟩ (.pointer (some ⟨b6, 0, none⟩))) ∧ IsV (w6.setCell ⟨w1.heap.size + 1 + 1, 0, none⟩ (.pointer (some ⟨b6, 0, none⟩))) (var3 w1.heap.size) p tx kk ∧ IsV (w6.setCell ⟨w1.heap.size + 1 + 1, 0, none⟩ (.pointer (some ⟨b6, 0, none⟩))) (var3 w1.heap.size) q tx k3 ∧ IsV (w6.setCell ⟨w1.heap.size + 1 + 1, 0, none⟩ (.pointer (some ⟨b6, 0, none⟩))) (var3 w1.heap.size) (.pointer (some ⟨b6, 0, none⟩)) tx (2 * L.length + 2)) := by
                          have hvr : var3 w1.heap.size (w1.heap.size + 1 + 1) := by unfold var3; omega
                          have h5 := HV.out.1.sz
                          have h55 := HBQ.out.size
                          have hrow' := HR.out
                          rw [← HNL.out] at hrow' hblk6
                          have hfl := flat_node (G := var3 w1.heap.size) hrow' (fun x hx => by
                            have hlf := HLF.out x hx
                            exact (hlf.later hV5.bel).isV (fun e => by have := hlf.lt; unfold var3 at e; omega)) hbel6 hblk6 (fun e => by unfold var3 at e; omega) (fun e => by unfold var3 at e; omega) (by omega)
                          rw [HTX.out] at hfl
                          exact ⟨hV6.set2, ((HV.out.2.1.later HBQ.out).later hbel6).set hvr, ((HV.out.2.2.later HBQ.out).later hbel6).set hvr, hfl.set hvr⟩
                        have hLn : L.length ≤ 1048576 := HLL.out.1
                        clear HV hV5 hV6 HR HBQ hb6 hblk6 hbel6 hcr hfr
                        have hl0 := cell_one HF.out.1.c0
                        have hl1 := cell_one HF.out.1.c1
                        have hl2 : (w6.setCell ⟨w1.heap.size + 1 + 1, 0, none⟩ (.pointer (some ⟨b6, 0, none⟩))).cell? ⟨w1.heap.size + 1 + 1, 0, none⟩ = some (.pointer (some ⟨b6, 0, none⟩)) := cell_one HF.out.1.c2
                        obtain ⟨bp, rfl, hnp⟩ := HF.out.2.1
                        obtain ⟨bq, rfl, hnq⟩ := HF.out.2.2.1
                        have HNP := hid_of hnp.free
                        have HBF : Hid (Below w2.heap.size w2 (w6.setCell ⟨w1.heap.size + 1 + 1, 0, none⟩ (.pointer (some ⟨b6, 0, none⟩)))) := HBL.out.trans (HF.out.1.bel.mono HBL.out.size)
                        clear hnp hnq
                        go_wp2_with fail
                        refine (string_any _ bp tx kk HNP.out hts (by omega)).mono ?_
                        rintro e7 w7 ⟨rfl, hb7⟩
                        have HF7 := hid_of (And.intro (HF.out.1.later hb7) (And.intro (HF.out.2.2.1.later hb7) (HF.out.2.2.2.later hb7)))
                        have HBF7 : Hid (Below w2.heap.size w2 w7) := HBF.out.trans (hb7.mono HBF.out.size)
                        clear HF hb7 HBF HNP hl0 hl1 hl2
                        have hl1 := cell_one HF7.out.1.c1
                        have hl2 : w7.cell? ⟨w1.heap.size + 1 + 1, 0, none⟩ = some (.pointer (some ⟨b6, 0, none⟩)) := cell_one HF7.out.1.c2
                        obtain ⟨bq', hbq, hnq⟩ := HF7.out.2.1
                        cases hbq
                        have HNQ := hid_of hnq.free
                        clear hnq
                        go_wp2_with fail
                        refine (string_any _ bq tx k3 HNQ.out hts (by omega)).mono ?_
                        rintro e8 w8 ⟨rfl, hb8⟩
                        have HF8 := hid_of (And.intro (HF7.out.1.later hb8) (HF7.out.2.2.later hb8))
                        have HBF8 : Hid (Below w2.heap.size w2 w8) := HBF7.out.trans (hb8.mono HBF7.out.size)
                        clear HF7 hb8 HBF7 HNQ hl1 hl2
                        have hl2 : w8.cell? ⟨w1.heap.size + 1 + 1, 0, none⟩ = some (.pointer (some ⟨b6, 0, none⟩)) := cell_one HF8.out.1.c2
                        obtain ⟨br', hbr, hnr⟩ := HF8.out.2
                        cases hbr
                        have HNR := hid_of hnr.free
                        clear hnr
                        go_wp2_with fail
                        refine (string_any _ _ tx (2 * L.length + 2) HNR.out hts (by omega)).mono ?_
                        rintro e9 w9 ⟨rfl, hb9⟩
                        have HBF9 : Hid (Below w2.heap.size w2 w9) := HBF8.out.trans (hb9.mono HBF8.out.size)
                        clear HF8 hb9 HBF8 HNR hl2
                        go_wp2_with fail
                        go_ret
                        exact AnsK.mk rfl HBF9.out

end Go.Proofs.Qxb6600249a
