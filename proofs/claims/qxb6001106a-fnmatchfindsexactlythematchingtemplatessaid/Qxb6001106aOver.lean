/-
  DERIVED, BY AN AI AGENT. Seat b6001106a: THE WALKS of (segment).literal (38), (segment).overlaps (32), ZZMatches (16), ZZOverlaps (12), zzSegMatches (14).
-/
import Derived.Test.Qxb6001106aMatch
import Derived.Deep.QuietTactic
import Derived.BigQuiet
import Derived.WalkSmall
namespace Go.Proofs.Qxb6001106a
open Go.RowKit

/-- The slice lies at ⟨b, o⟩ and reads as the texts ss. -/
def RowAt (w : World) (b o : Nat) (ss : List ByteArray) : Prop := ∀ i, i < ss.length → w.cell? ⟨b, o + i, none⟩ = some (.string (ss.getD i ByteArray.empty))

theorem literal_yes (a : Option Addr) (c : Nat) (w : World) : Calls Try.prog 38 #[.slice a 1 c] w fun e w' => e = .returned (.bool true) ∧ w' = w := by
  go_enter Try.func38, Try.ntmps38
  go_wp2
  go_ret
  exact ⟨rfl, rfl⟩

theorem literal_no (a : Option Addr) (n c : Nat) (w : World) (h : n ≠ 1) : Calls Try.prog 38 #[.slice a n c] w fun e w' => e = .returned (.bool false) ∧ w' = w := by
  have h1 : ((n : Int) == 1) = false := by rw [beq_eq_false_iff_ne]; omega
  go_enter Try.func38, Try.ntmps38
  go_wp2
  go_ret
  exact ⟨rfl, rfl⟩

/-- A bool came back; of what was there nothing has turned. -/
def AnsK (p : Bool) (w : World) (e : Ending) (w' : World) : Prop := e = .returned (.bool p) ∧ Below w.heap.size w w'
theorem AnsK.mk {p q : Bool} {w w' : World} (h : q = p) (hb : Below w.heap.size w w') : AnsK p w (.returned (.bool q)) w' := ⟨by rw [h], hb⟩

set_option maxHeartbeats 400000 in
theorem overlaps_LL (b o c b' o' c' : Nat) (ss ss' : List ByteArray) (w : World) (h1 : ss.length = 1) (h2 : ss'.length = 1) (hc : RowAt w b o ss) (hc' : RowAt w b' o' ss') :
    Calls Try.prog 32 #[.slice (some ⟨b, o, none⟩) 1 c, .slice (some ⟨b', o', none⟩) 1 c'] w (AnsK (overlapsP (bls ss) (bls ss')) w) := by
  have g0 := hc 0 (by omega)
  have g1 := hc' 0 (by omega)
  rw [Nat.add_zero] at g0 g1
  have HO : Hid (overlapsP (bls ss) (bls ss') = decide (bl (ss.getD 0 ByteArray.empty) = bl (ss'.getD 0 ByteArray.empty))) := by
    unfold overlapsP
    rw [bls_length, bls_length, if_pos ⟨h1, h2⟩, bls_first ss (by omega), bls_first ss' (by omega)]; rfl
  clear hc hc' h1 h2
  generalize ss.getD 0 ByteArray.empty = s0 at *
  generalize ss'.getD 0 ByteArray.empty = s1 at *
  go_enter Try.func32, Try.ntmps32
  go_wp2_with fail
  refine (literal_yes _ _ _).mono ?_
  rintro e w1 ⟨rfl, rfl⟩
  go_wp2_with fail
  refine (literal_yes _ _ _).mono ?_
  rintro e w1 ⟨rfl, rfl⟩
  go_wp2_with fail
  go_quiet (fail)
  go_wp2_with fail
  go_ret
  refine AnsK.mk (q := s0.toList == s1.toList) ?_ (below_drewN (Below.refl _ _) _)
  rw [HO.out, Lib.toList_data, Lib.toList_data, Bool.eq_iff_iff, beq_iff_eq, decide_eq_true_iff]; exact Iff.rfl

set_option maxHeartbeats 400000 in
theorem overlaps_NL (b o n c b' o' c' : Nat) (ss ss' : List ByteArray) (w : World) (hn : n = ss.length) (hnc : ss.length ≤ c) (hM : MaxOk w) (hz : Sz ss) (hz' : Sz ss') (h1 : 2 ≤ ss.length) (h2 : ss'.length = 1) (hc : RowAt w b o ss) (hc' : RowAt w b' o' ss') :
    Calls Try.prog 32 #[.slice (some ⟨b, o, none⟩) n c, .slice (some ⟨b', o', none⟩) 1 c'] w (AnsK (overlapsP (bls ss) (bls ss')) w) := by
  subst hn
  have g1 := hc' 0 (by omega)
  have hs1 := hz'.2 0
  rw [Nat.add_zero] at g1
  have HO : Hid (overlapsP (bls ss) (bls ss') = matchesP (bls ss) (bl (ss'.getD 0 ByteArray.empty))) := by
    unfold overlapsP
    rw [bls_length, bls_length, if_neg (by omega), if_pos h2, bls_first ss' (by omega)]; rfl
  clear hc' hz' h2
  generalize ss'.getD 0 ByteArray.empty = s1 at *
  go_enter Try.func32, Try.ntmps32
  go_wp2_with fail
  refine (literal_no _ _ _ _ (by omega)).mono ?_
  rintro e w1 ⟨rfl, rfl⟩
  go_wp2_with fail
  refine (literal_yes _ _ _).mono ?_
  rintro e w1 ⟨rfl, rfl⟩
  go_wp2_with fail
  refine (matches_any b o _ c ss s1 _ rfl hnc hM hz (by omega) h1 hc).mono ?_
  rintro e w2 ⟨rfl, rfl⟩
  go_wp2_with fail
  go_ret
  exact AnsK.mk (by rw [HO.out]) (Below.refl _ _)

set_option maxHeartbeats 400000 in
theorem overlaps_LN (b o c b' o' n' c' : Nat) (ss ss' : List ByteArray) (w : World) (hn : n' = ss'.length) (hnc : ss'.length ≤ c') (hM : MaxOk w) (hz : Sz ss) (hz' : Sz ss') (h1 : ss.length = 1) (h2 : 2 ≤ ss'.length) (hc : RowAt w b o ss) (hc' : RowAt w b' o' ss') :
    Calls Try.prog 32 #[.slice (some ⟨b, o, none⟩) 1 c, .slice (some ⟨b', o', none⟩) n' c'] w (AnsK (overlapsP (bls ss) (bls ss')) w) := by
  subst hn
  have g1 := hc 0 (by omega)
  have hs1 := hz.2 0
  rw [Nat.add_zero] at g1
  have HO : Hid (overlapsP (bls ss) (bls ss') = matchesP (bls ss') (bl (ss.getD 0 ByteArray.empty))) := by
    unfold overlapsP
    rw [bls_length, bls_length, if_neg (by omega), if_neg (by omega), if_pos h1, bls_first ss (by omega)]; rfl
  clear hc hz h1
  generalize ss.getD 0 ByteArray.empty = s1 at *
  go_enter Try.func32, Try.ntmps32
  go_wp2_with fail
  refine (literal_yes _ _ _).mono ?_
  rintro e w1 ⟨rfl, rfl⟩
  go_wp2_with fail
  refine (literal_no _ _ _ _ (by omega)).mono ?_
  rintro e w1 ⟨rfl, rfl⟩
  go_wp2_with fail
  refine (literal_no _ _ _ _ (by omega)).mono ?_
  rintro e w1 ⟨rfl, rfl⟩
  go_wp2_with fail
  refine (literal_yes _ _ _).mono ?_
  rintro e w1 ⟨rfl, rfl⟩
  go_wp2_with fail
  refine (matches_any b' o' _ c' ss' s1 _ rfl hnc hM hz' (by omega) h2 hc').mono ?_
  rintro e w2 ⟨rfl, rfl⟩
  go_wp2_with fail
  go_ret
  exact AnsK.mk (by rw [HO.out]) (Below.refl _ _)

set_option maxHeartbeats 800000 in
theorem overlaps_NN (b o n c b' o' n' c' : Nat) (ss ss' : List ByteArray) (w : World) (hn : n = ss.length) (hn' : n' = ss'.length) (hz : Sz ss) (hz' : Sz ss') (h1 : 2 ≤ ss.length) (h2 : 2 ≤ ss'.length) (hc : RowAt w b o ss) (hc' : RowAt w b' o' ss') :
    Calls Try.prog 32 #[.slice (some ⟨b, o, none⟩) n c, .slice (some ⟨b', o', none⟩) n' c'] w (AnsK (overlapsP (bls ss) (bls ss')) w) := by
  subst hn hn'
  have g0 := hc 0 (by omega)
  have g1 := hc' 0 (by omega)
  have k0 := hc (ss.length - 1) (by omega)
  have k1 := hc' (ss'.length - 1) (by omega)
  rw [Nat.add_zero] at g0 g1
  have z0 := hz.2 (ss.length - 1)
  have z1 := hz'.2 (ss'.length - 1)
  have l0 := hz.1
  have l1 := hz'.1
  have HO : Hid (overlapsP (bls ss) (bls ss') = ((Lib.hasPrefix (ss.getD 0 ByteArray.empty).data.toList (ss'.getD 0 ByteArray.empty).data.toList || Lib.hasPrefix (ss'.getD 0 ByteArray.empty).data.toList (ss.getD 0 ByteArray.empty).data.toList) &&
      (Lib.hasSuffix (ss.getD (ss.length - 1) ByteArray.empty).data.toList (ss'.getD (ss'.length - 1) ByteArray.empty).data.toList || Lib.hasSuffix (ss'.getD (ss'.length - 1) ByteArray.empty).data.toList (ss.getD (ss.length - 1) ByteArray.empty).data.toList))) := by
    unfold overlapsP
    rw [bls_length, bls_length, if_neg (by omega), if_neg (by omega), if_neg (by omega), bls_first ss (by omega), bls_first ss' (by omega), bls_last ss (by omega), bls_last ss' (by omega)]; rfl
  clear hc hc' hz hz'
  generalize ss.getD 0 ByteArray.empty = s0 at *
  generalize ss'.getD 0 ByteArray.empty = s1 at *
  generalize ss.getD (ss.length - 1) ByteArray.empty = t0 at *
  generalize ss'.getD (ss'.length - 1) ByteArray.empty = t1 at *
  go_enter Try.func32, Try.ntmps32
  go_wp2_with fail
  refine (literal_no _ _ _ _ (by omega)).mono ?_
  rintro e w1 ⟨rfl, rfl⟩
  go_wp2_with fail
  refine (literal_no _ _ _ _ (by omega)).mono ?_
  rintro e w1 ⟨rfl, rfl⟩
  go_wp2_with fail
  refine (literal_no _ _ _ _ (by omega)).mono ?_
  rintro e w1 ⟨rfl, rfl⟩
  go_wp2_with fail
  go_quiet (fail)
  go_wp2_with fail
  go_quiet (fail)
  go_wp2_with fail
  refine (Try.strings_HasPrefix _ _ _).mono ?_
  rintro e w2 ⟨rfl, rfl⟩
  generalize Lib.hasPrefix s0.data.toList s1.data.toList = p1 at *
  cases p1
  · go_wp2_with fail
    refine (Try.strings_HasPrefix _ _ _).mono ?_
    rintro e w2 ⟨rfl, rfl⟩
    generalize Lib.hasPrefix s1.data.toList s0.data.toList = p2 at *
    cases p2
    · go_wp2_with fail
      go_ret
      exact AnsK.mk (by rw [HO.out]; rfl) (below_drewN (Below.refl _ _) _)
    · go_wp2_with fail
      refine (Try.strings_HasSuffix _ _ _ (by omega)).mono ?_
      rintro e w2 ⟨rfl, rfl⟩
      generalize Lib.hasSuffix t0.data.toList t1.data.toList = p3 at *
      cases p3
      · go_wp2_with fail
        refine (Try.strings_HasSuffix _ _ _ (by omega)).mono ?_
        rintro e w2 ⟨rfl, rfl⟩
        generalize Lib.hasSuffix t1.data.toList t0.data.toList = p4 at *
        go_wp2_with fail
        go_ret
        exact AnsK.mk (by rw [HO.out]; rfl) (below_drewN (Below.refl _ _) _)
      · go_wp2_with fail
        go_ret
        exact AnsK.mk (by rw [HO.out]; rfl) (below_drewN (Below.refl _ _) _)
  · go_wp2_with fail
    refine (Try.strings_HasSuffix _ _ _ (by omega)).mono ?_
    rintro e w2 ⟨rfl, rfl⟩
    generalize Lib.hasSuffix t0.data.toList t1.data.toList = p3 at *
    cases p3
    · go_wp2_with fail
      refine (Try.strings_HasSuffix _ _ _ (by omega)).mono ?_
      rintro e w2 ⟨rfl, rfl⟩
      generalize Lib.hasSuffix t1.data.toList t0.data.toList = p4 at *
      go_wp2_with fail
      go_ret
      exact AnsK.mk (by rw [HO.out]; rfl) (below_drewN (Below.refl _ _) _)
    · go_wp2_with fail
      go_ret
      exact AnsK.mk (by rw [HO.out]; rfl) (below_drewN (Below.refl _ _) _)

theorem StrsAt.row_at {w : World} {a : Option Addr} {ss : List ByteArray} (h : StrsAt w a ss) (h0 : 0 < ss.length) : ∃ b o, a = some ⟨b, o, none⟩ ∧ b < w.heap.size ∧ RowAt w b o ss := by
  obtain ⟨b, o, rfl, hb, _⟩ := h 0 h0
  refine ⟨b, o, rfl, hb, fun i hi => ?_⟩
  obtain ⟨b', o', e, _, hcell⟩ := h i hi
  cases e
  exact hcell

/-- (segment).overlaps. -/
theorem overlaps_any (a a' : Option Addr) (n c n' c' : Nat) (ss ss' : List ByteArray) (w : World) (hn : n = ss.length) (hnc : ss.length ≤ c) (hn' : n' = ss'.length) (hnc' : ss'.length ≤ c') (hM : MaxOk w) (hz : Sz ss) (hz' : Sz ss')
    (h1 : 1 ≤ ss.length) (h2 : 1 ≤ ss'.length) (hc : StrsAt w a ss) (hc' : StrsAt w a' ss') :
    Calls Try.prog 32 #[.slice a n c, .slice a' n' c'] w (AnsK (overlapsP (bls ss) (bls ss')) w) := by
  obtain ⟨b, o, rfl, _, hr⟩ := hc.row_at h1
  obtain ⟨b', o', rfl, _, hr'⟩ := hc'.row_at h2
  by_cases e1 : ss.length = 1
  · by_cases e2 : ss'.length = 1
    · rw [hn, hn', e1, e2]; exact overlaps_LL b o c b' o' c' ss ss' w e1 e2 hr hr'
    · rw [hn, e1]; exact overlaps_LN b o c b' o' n' c' ss ss' w hn' hnc' hM hz hz' e1 (by omega) hr hr'
  · by_cases e2 : ss'.length = 1
    · rw [hn', e2]; exact overlaps_NL b o n c b' o' c' ss ss' w hn hnc hM hz hz' (by omega) e2 hr hr'
    · exact overlaps_NN b o n c b' o' n' c' ss ss' w hn hn' hz hz' (by omega) (by omega) hr hr'

/-- ZZOverlaps. -/
theorem zzOverlaps_any (a a' : Option Addr) (n c n' c' : Nat) (ss ss' : List ByteArray) (w : World) (hn : n = ss.length) (hnc : ss.length ≤ c) (hn' : n' = ss'.length) (hnc' : ss'.length ≤ c') (hM : MaxOk w) (hz : Sz ss) (hz' : Sz ss')
    (h1 : 1 ≤ ss.length) (h2 : 1 ≤ ss'.length) (hc : StrsAt w a ss) (hc' : StrsAt w a' ss') :
    Calls Try.prog 12 #[.slice a n c, .slice a' n' c'] w (AnsK (overlapsP (bls ss) (bls ss')) w) := by
  subst hn hn'
  go_enter Try.func12, Try.ntmps12
  go_wp2_with fail
  refine (overlaps_any a a' _ c _ c' ss ss' w rfl hnc rfl hnc' hM hz hz' h1 h2 hc hc').mono ?_
  rintro e w2 ⟨rfl, hb⟩
  go_wp2_with fail
  go_ret
  exact AnsK.mk rfl hb

/-- ZZMatches. -/
theorem zzMatches_any (a : Option Addr) (n c : Nat) (ss : List ByteArray) (t : ByteArray) (w : World) (hn : n = ss.length) (hnc : ss.length ≤ c) (hM : MaxOk w) (hsz : Sz ss) (ht : t.size ≤ 4000000000) (h2 : 2 ≤ ss.length) (hc : StrsAt w a ss) :
    Calls Try.prog 16 #[.slice a n c, .string t] w fun e w' => e = .returned (.bool (matchesP (bls ss) (bl t))) ∧ w' = w := by
  subst hn
  obtain ⟨b, o, rfl, _, hr⟩ := hc.row_at (by omega)
  go_enter Try.func16, Try.ntmps16
  go_wp2_with fail
  refine (matches_any b o _ c ss t w rfl hnc hM hsz ht h2 hr).mono ?_
  rintro e w2 ⟨rfl, rfl⟩
  go_wp2_with fail
  go_ret
  exact ⟨rfl, rfl⟩

/-- zzSegMatches. -/
theorem segMatches_any (a : Option Addr) (n c : Nat) (ss : List ByteArray) (t : ByteArray) (w : World) (hn : n = ss.length) (hnc : ss.length ≤ c) (hM : MaxOk w) (hsz : Sz ss) (ht : t.size ≤ 4000000000) (h1 : 1 ≤ ss.length) (hc : StrsAt w a ss) :
    Calls Try.prog 14 #[.slice a n c, .string t] w fun e w' => e = .returned (.bool (segMatchesP (bls ss) (bl t))) ∧ w' = w := by
  subst hn
  obtain ⟨b, o, rfl, _, hr⟩ := hc.row_at (by omega)
  by_cases e1 : ss.length = 1
  · have g0 := hr 0 (by omega)
    rw [Nat.add_zero] at g0
    have HO : Hid (segMatchesP (bls ss) (bl t) = decide (bl t = bl (ss.getD 0 ByteArray.empty))) := by
      unfold segMatchesP
      rw [bls_length, if_pos e1, bls_first ss (by omega)]; rfl
    rw [e1]
    clear hr hc e1 hsz
    generalize ss.getD 0 ByteArray.empty = s0 at *
    go_enter Try.func14, Try.ntmps14
    go_wp2_with fail
    go_ret
    refine ⟨?_, rfl⟩
    show Ending.returned (.bool (t.toList == s0.toList)) = _
    rw [HO.out, Lib.toList_data, Lib.toList_data]
    congr 2
    rw [Bool.eq_iff_iff, beq_iff_eq, decide_eq_true_iff]; exact Iff.rfl
  · have HO : Hid (segMatchesP (bls ss) (bl t) = matchesP (bls ss) (bl t)) := by
      unfold segMatchesP
      rw [bls_length, if_neg e1]; rfl
    have hne : ((ss.length : Int) == 1) = false := by rw [beq_eq_false_iff_ne]; omega
    go_enter Try.func14, Try.ntmps14
    go_wp2_with fail
    refine (zzMatches_any _ _ c ss t w rfl hnc hM hsz ht (by omega) hc).mono ?_
    rintro e w2 ⟨rfl, rfl⟩
    go_wp2_with fail
    go_ret
    exact ⟨by rw [HO.out]; rfl, rfl⟩

end Go.Proofs.Qxb6001106a
