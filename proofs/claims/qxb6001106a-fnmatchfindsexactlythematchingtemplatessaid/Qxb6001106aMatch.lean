/-
  DERIVED, BY AN AI AGENT. Seat b6001106a: THE WALKS of (segment).matches (33), ZZMatches (16), (segment).literal (38), (segment).overlaps (32), ZZOverlaps (12), zzSegMatches (14).
-/
import Derived.Test.Qxb6001106aBase
import Derived.Test.Qxb6001106aTrie
import Derived.Test.Qxb6001106aShelf
import Derived.Deep.QuietTactic
import Derived.BigQuiet
namespace Go.Proofs.Qxb6001106a
open Go.RowKit

theorem bls_first (ss : List ByteArray) (h : 0 < ss.length) : firstOf (bls ss) = bl (ss.getD 0 ByteArray.empty) := by
  cases ss with
  | nil => simp at h
  | cons x r => rfl
theorem bls_last (ss : List ByteArray) (h : 0 < ss.length) : lastOf (bls ss) = bl (ss.getD (ss.length - 1) ByteArray.empty) := by
  unfold lastOf bls
  rw [List.getLastD_eq_getLast?, List.getLast?_eq_getElem?, List.length_map, List.getElem?_map, List.getD_eq_getElem?_getD, List.getElem?_eq_getElem (by omega)]
  rfl
/-- The inner texts that are left behind k rounds. -/
def inner (ss : List ByteArray) (k : Nat) : List (List UInt8) := (innerOf (bls ss)).drop k
theorem inner_succ (ss : List ByteArray) (k : Nat) (h : k + 2 < ss.length) : inner ss k = bl (ss.getD (1 + k) ByteArray.empty) :: inner ss (k + 1) := by
  unfold inner innerOf bls
  have hl : k < (List.take ((List.map bl ss).length - 2) (List.drop 1 (List.map bl ss))).length := by simp; omega
  rw [List.drop_eq_getElem_cons hl]
  congr 1
  simp only [List.getElem_take, List.getElem_drop, List.getElem_map]
  rw [List.getD_eq_getElem?_getD, List.getElem?_eq_getElem (by omega)]
  rfl
theorem inner_none (ss : List ByteArray) (k : Nat) (h : ss.length ≤ k + 2) : inner ss k = [] := by
  unfold inner innerOf bls
  apply List.drop_eq_nil_of_le
  simp; omega

theorem hid_inner (ss : List ByteArray) (k : Nat) (h : k + 2 < ss.length) : Hid (inner ss k = bl (ss.getD (1 + k) ByteArray.empty) :: inner ss (k + 1)) := inner_succ ss k h
theorem bl_extract_end (s : ByteArray) (a : Nat) : bl (s.extract a s.size) = (bl s).drop a := by
  unfold bl
  rw [Lib.extract_data]
  apply List.take_of_length_le
  simp

theorem ext_size (s : ByteArray) (a : Nat) : (s.extract a s.size).size = s.size - a := by
  rw [← bl_length, bl_extract_end, List.length_drop, bl_length]
theorem isEmpty_bl (s : ByteArray) : (s.toList.isEmpty = true) = (bl s = []) := by
  rw [Lib.toList_data, List.isEmpty_iff]; rfl
theorem isEmpty_bl' (s : ByteArray) : (s.toList.isEmpty = false) = (bl s ≠ []) := by
  rw [Lib.toList_data, Bool.eq_false_iff, ne_eq, List.isEmpty_iff]; rfl

/-- The cell of the variable internal/bytealg.MaxLen holds an int. -/
def MaxOk (w : World) : Prop := 0 < w.heap.size ∧ ∃ m, w.cell? ⟨0, 0, none⟩ = some (.int .i64 m)
theorem MaxOk.later {w w' : World} (h : MaxOk w) (hb : Below w.heap.size w w') : MaxOk w' :=
  ⟨Nat.lt_of_lt_of_le h.1 hb.size, let ⟨m, hm⟩ := h.2; ⟨m, by rw [hb.cell (p := ⟨0, 0, none⟩) h.1]; exact hm⟩⟩

set_option maxHeartbeats 400000 in
theorem matches_any (b o n c : Nat) (ss : List ByteArray) (t : ByteArray) (w : World) (hn : n = ss.length) (hnc : ss.length ≤ c) (hM : MaxOk w) (hsz : Sz ss) (ht : t.size ≤ 4000000000) (h2 : 2 ≤ ss.length)
    (hc : ∀ i, i < ss.length → w.cell? ⟨b, o + i, none⟩ = some (.string (ss.getD i ByteArray.empty))) :
    Calls Try.prog 33 #[.slice (some ⟨b, o, none⟩) n c, .string t] w fun e w' => e = .returned (.bool (matchesP (bls ss) (bl t))) ∧ w' = w := by
  subst hn
  obtain ⟨_, m, hm⟩ := hM
  obtain ⟨hl, hsz⟩ := hsz
  have h0 := hc 0 (by omega)
  have hz0 := hsz 0
  generalize hs0 : ss.getD 0 ByteArray.empty = s0 at *
  rw [Nat.add_zero] at h0
  have HC : Hid (∀ i, i < ss.length → w.cell? ⟨b, o + i, none⟩ = some (.string (ss.getD i ByteArray.empty))) := hc
  clear hc
  have HE : Hid (matchesP (bls ss) (bl t) = (Lib.hasPrefix (bl t) (bl s0) && endB (lastOf (bls ss)) (midsFrom (inner ss 0) ((bl t).drop (bl s0).length)))) := by
    unfold matchesP
    rw [bls_first ss (by omega), hs0]
    rfl
  clear hs0
  cases hp : Lib.hasPrefix t.data.toList s0.data.toList with
  | false =>
    have hpb : Lib.hasPrefix (bl t) (bl s0) = false := hp
    have HE2 : Hid (matchesP (bls ss) (bl t) = false) := by rw [HE.out, hpb]; rfl
    clear hpb
    go_enter Try.func33, Try.ntmps33
    go_wp2_with fail
    refine (Try.strings_HasPrefix _ _ _).mono ?_
    rintro e w' ⟨rfl, rfl⟩
    rw [hp]
    go_wp2_with fail
    go_ret
    exact ⟨by rw [HE2.out]; rfl, rfl⟩
  | true =>
    have hle : s0.size ≤ t.size := by
      have := (List.isPrefixOf_iff_prefix.1 hp).length_le
      simpa using this
    have HE2 : Hid (matchesP (bls ss) (bl t) = endB (lastOf (bls ss)) (midsFrom (inner ss 0) ((bl t).drop (bl s0).length))) := by rw [HE.out, show Lib.hasPrefix (bl t) (bl s0) = true from hp]; rfl
    clear HE
    go_enter Try.func33, Try.ntmps33
    go_wp2_with fail
    refine (Try.strings_HasPrefix _ _ _).mono ?_
    rintro e w' ⟨rfl, rfl⟩
    rw [hp]
    clear hp
    go_wp2_with fail
    go_loop [1, 28] (fun tx i => ∃ (k : Nat) (tk : ByteArray), k + 2 ≤ ss.length ∧ i = .int .i64 k ∧ tx = .string tk ∧ tk.size ≤ 4000000000 ∧ midsFrom (inner ss k) (bl tk) = midsFrom (inner ss 0) ((bl t).drop (bl s0).length)) (fun _ i => ss.length - (intOf i).toNat)
    case atStart => exact ⟨0, t.extract s0.size t.size, by omega, rfl, by go_num, by simp; omega, by rw [bl_extract_end, bl_length]⟩
    case round =>
      obtain ⟨k, tk, hk, rfl, rfl, htk, hmid⟩ := hrel
      have HM : Hid (midsFrom (inner ss k) (bl tk) = midsFrom (inner ss 0) ((bl t).drop (bl s0).length)) := hmid
      clear hmid
      by_cases hlt : k + 2 < ss.length
      · have hck := HC.out (1 + k) (by omega)
        rw [← Nat.add_assoc] at hck
        have HI := hid_inner ss k hlt
        have hsk := hsz (1 + k)
        generalize ss.getD (1 + k) ByteArray.empty = sk at *
        cases hem : tk.toList.isEmpty with
        | true =>
          have HF : Hid (matchesP (bls ss) (bl t) = false) := by
            rw [HE2.out, ← HM.out, HI.out, midsFrom, if_pos (by rw [isEmpty_bl] at hem; exact hem)]; rfl
          go_wp2_with fail
          go_ret
          exact ⟨by rw [HF.out]; rfl, rfl⟩
        | false =>
          have HN : Hid (bl tk ≠ []) := by rw [isEmpty_bl'] at hem; exact hem
          have h1 : 1 ≤ tk.size := by rw [← bl_length]; exact List.length_pos_iff.2 HN.out
          have h1' : (1 : Int) ≤ tk.size := by omega
          go_wp2_with fail
          refine (Try.strings_Index _ _ m _ ?_ hm).mono ?_
          · rw [ext_size]; omega
          rintro e w2 ⟨rfl, rfl⟩
          have hge := Lib.index_ge (tk.extract 1 tk.size).data.toList sk.data.toList
          have hro := Lib.index_room (tk.extract 1 tk.size).data.toList sk.data.toList
          have HX : Hid (Lib.index ((bl tk).drop 1) (bl sk) = Lib.index (tk.extract 1 tk.size).data.toList sk.data.toList) := by rw [← bl_extract_end]; rfl
          rw [show sk.data.toList.length = sk.size from rfl, show (tk.extract 1 tk.size).data.toList.length = tk.size - 1 from ext_size tk 1] at hro
          generalize Lib.index (tk.extract 1 tk.size).data.toList sk.data.toList = ix at *
          by_cases hneg : ix < 0
          · have HF : Hid (matchesP (bls ss) (bl t) = false) := by
              rw [HE2.out, ← HM.out, HI.out, midsFrom, if_neg HN.out, HX.out, if_pos hneg]; rfl
            go_wp2_with fail
            go_ret
            exact ⟨by rw [HF.out]; rfl, rfl⟩
          · obtain ⟨j, rfl⟩ := Int.eq_ofNat_of_zero_le (by omega : 0 ≤ ix)
            have hro' := hro (by omega)
            clear hro hneg hge
            have HR : Hid (midsFrom (inner ss (k + 1)) (bl (tk.extract (1 + j + sk.size) tk.size)) = midsFrom (inner ss 0) ((bl t).drop (bl s0).length)) := by
              rw [← HM.out, HI.out, midsFrom, if_neg HN.out, HX.out, if_neg (by omega), bl_extract_end, bl_length]; rfl
            go_wp2_with fail
            go_round
            case rel => exact ⟨k + 1, tk.extract (1 + j + sk.size) tk.size, by omega, by go_num, by go_num, by rw [ext_size]; omega, HR.out⟩
            case measure => simp [intOf]; omega
      · have hcl := HC.out (ss.length - 1) (by omega)
        have hsl := hsz (ss.length - 1)
        have HL : Hid (lastOf (bls ss) = bl (ss.getD (ss.length - 1) ByteArray.empty)) := bls_last ss (by omega)
        generalize ss.getD (ss.length - 1) ByteArray.empty = sl at *
        have HF : Hid (matchesP (bls ss) (bl t) = (decide (sl.size < tk.size) && Lib.hasSuffix (bl tk) (bl sl))) := by
          rw [HE2.out, ← HM.out, HL.out, inner_none ss k (by omega), midsFrom, endB, bl_length, bl_length]; rfl
        by_cases hsl2 : sl.size < tk.size
        · have HG : Hid (matchesP (bls ss) (bl t) = Lib.hasSuffix (bl tk) (bl sl)) := by rw [HF.out, decide_eq_true hsl2]; rfl
          go_wp2_with fail
          refine (Try.strings_HasSuffix _ _ _ (by omega)).mono ?_
          rintro e w2 ⟨rfl, rfl⟩
          go_wp2_with fail
          go_ret
          exact ⟨by rw [HG.out]; rfl, rfl⟩
        · have HG : Hid (matchesP (bls ss) (bl t) = false) := by rw [HF.out, decide_eq_false hsl2]; rfl
          go_wp2_with fail
          go_ret
          exact ⟨by rw [HG.out]; rfl, rfl⟩

end Go.Proofs.Qxb6001106a
