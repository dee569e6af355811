/-
  DERIVED, BY AN AI AGENT. Seat b6600249a: whole (32), ZZWhole (13), ZZNode (18).
-/
import Derived.Test.Qxb6600249aString
namespace Go.Proofs.Qxb6600249a
open Go.RowKit

theorem toList_nil (s : ByteArray) : s.toList = [] ↔ s.size = 0 := by
  rw [Lib.toList_data]
  obtain ⟨l⟩ := s
  show l.toList = [] ↔ l.size = 0
  rw [Array.toList_eq_nil_iff, Array.size_eq_zero_iff]

/-- What whole makes. -/
def WholePost (w : World) (s : ByteArray) (fv : Value) (e : Ending) (w' : World) : Prop :=
  ∃ b, e = .returned (.agg #[.pointer (some ⟨b, 0, none⟩)]) ∧ w.heap.size ≤ b ∧ w'.heap[b]? = some (.cells #[.string s, .slice none 0 0, .int .i64 s.size, .bool (decide (0 ≤ Lib.indexByte s.data.toList 0)), fv] 55 (0, 0)) ∧ Below w.heap.size w w'

set_option maxHeartbeats 400000 in
theorem whole_any (s : ByteArray) (fa : Option Addr) (fn fc : Nat) (w : World) (h : s.size ≠ 0 ∨ fa ≠ none) : Calls Try.prog 32 #[.string s, .slice fa fn fc] w (WholePost w s (.slice fa fn fc)) := by
  have hnil := fun (w : World) (x : Option Addr) (n c : Nat) => Lib.run_eql_slice_nil (P := Try.prog) w 22 9 x n c 0 0 Try.underlying22
  have HC := hid_of (Try.strings_IndexByte s 0)
  by_cases h0 : s.size = 0
  · have hs : s = ⟨#[]⟩ := by
      obtain ⟨l⟩ := s
      have : l.size = 0 := h0
      rw [Array.size_eq_zero_iff] at this
      rw [this]
    have hf : fa.isNone = false := by
      rcases h with h | h
      · exact absurd h0 h
      · cases fa with
        | none => exact absurd rfl h
        | some _ => rfl
    subst hs
    go_enter Try.func32, Try.ntmps32
    go_wp2_with fail
    refine (HC.out _).mono ?_
    rintro e w2 ⟨rfl, rfl⟩
    obtain ⟨nb, HNB⟩ : ∃ nb, Hid (Lib.indexByte (⟨#[]⟩ : ByteArray).data.toList (0 : Int).toNat.toUInt8 = nb) := ⟨_, hid_of rfl⟩
    rw [HNB.out]
    go_wp2_with fail
    refine bodyPost_ret (v := .agg #[.pointer (some ⟨w.heap.size + 1, 0, none⟩)]) (by simp [results, Try.results32, go_sem]) rfl ?_
    refine ⟨w.heap.size + 1, rfl, by omega, ?_, ((Below.refl _ _).alloc (Nat.le_refl _) _).alloc (by simp) _⟩
    rw [← HNB.out]
    exact (two_allocs w _ _).2
  · have hs1 : ¬ (s.toList = []) := fun e => h0 ((toList_nil s).1 e)
    go_enter Try.func32, Try.ntmps32
    go_wp2_with fail
    refine (HC.out _).mono ?_
    rintro e w2 ⟨rfl, rfl⟩
    obtain ⟨nb, HNB⟩ : ∃ nb, Hid (Lib.indexByte s.data.toList (0 : Int).toNat.toUInt8 = nb) := ⟨_, hid_of rfl⟩
    rw [HNB.out]
    go_wp2_with fail
    refine bodyPost_ret (v := .agg #[.pointer (some ⟨w.heap.size + 1, 0, none⟩)]) (by simp [results, Try.results32, go_sem]) rfl ?_
    refine ⟨w.heap.size + 1, rfl, by omega, ?_, ((Below.refl _ _).alloc (Nat.le_refl _) _).alloc (by simp) _⟩
    rw [← HNB.out]
    exact (two_allocs w _ _).2

/-- ZZWhole. -/
theorem zzWhole_any (s : ByteArray) (fa : Option Addr) (fn fc : Nat) (w : World) (h : s.size ≠ 0 ∨ fa ≠ none) : Calls Try.prog 13 #[.string s, .slice fa fn fc] w (WholePost w s (.slice fa fn fc)) := by
  go_enter Try.func13, Try.ntmps13
  go_wp2_with fail
  refine (whole_any s fa fn fc _ h).mono ?_
  rintro e w2 ⟨b, rfl, hb, hblk, hbel⟩
  have hs1 : (w.alloc (Obj.cells #[Value.pointer none] 32)).heap.size = w.heap.size + 1 := by simp
  have h0 : w2.cell? ⟨w.heap.size, 0, none⟩ = some (.pointer none) := by
    rw [World.cell?_of_block (w := w.alloc (Obj.cells #[Value.pointer none] 32)) (hbel.block w.heap.size (by omega))]
    simp only [World.cell?, heap_alloc_new]
    rfl
  have h1 : w2.frozen? ⟨w.heap.size, 0, none⟩ = false := by
    rw [World.frozen?_of_block (w := w.alloc (Obj.cells #[Value.pointer none] 32)) (hbel.block w.heap.size (by omega))]
    simp only [World.frozen?, heap_alloc_new]
    rfl
  go_wp2_with fail
  refine bodyPost_ret (v := .agg #[.pointer (some ⟨b, 0, none⟩)]) (by simp [results, Try.results13, go_sem, h0]) rfl ?_
  rw [hs1] at hb
  refine ⟨b, rfl, by omega, ?_, ?_⟩
  · rw [Below.heap_setCell _ _ _ _ (by show b ≠ w.heap.size; omega)]; exact hblk
  · exact (((Below.refl _ _).alloc (Nat.le_refl _) _).trans (hbel.mono (by omega))).setCell (Nat.le_refl _) _

/-- What ZZNode makes. -/
def NodePost (w : World) (pa : Option Addr) (n c : Nat) (sz : Nat) (e : Ending) (w' : World) : Prop :=
  ∃ b, e = .returned (.agg #[.pointer (some ⟨b, 0, none⟩)]) ∧ w.heap.size ≤ b ∧ w'.heap[b]? = some (.cells #[.string ⟨#[]⟩, .slice pa n c, .int .i64 sz, .bool false, .slice none 0 0] 55 (0, 0)) ∧ Below w.heap.size w w'

theorem zzNode_any (pa : Option Addr) (n c sz : Nat) (w : World) : Calls Try.prog 18 #[.slice pa n c, .int .i64 sz] w (NodePost w pa n c sz) := by
  go_enter Try.func18, Try.ntmps18
  go_wp2_with fail
  refine bodyPost_ret (v := .agg #[.pointer (some ⟨w.heap.size + 1, 0, none⟩)]) (by simp [results, Try.results18, go_sem]) rfl ?_
  refine ⟨w.heap.size + 1, rfl, by omega, ?_, ((Below.refl _ _).alloc (Nat.le_refl _) _).alloc (by simp) _⟩
  exact (two_allocs w _ _).2

end Go.Proofs.Qxb6600249a
