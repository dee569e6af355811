/-
  DERIVED, BY AN AI AGENT. Seat b6600249a: Reserve (26).
-/
import Derived.Test.Qxb6600249aRes5
import Derived.Deep.DeepCutAuto
namespace Go.Proofs.Qxb6600249a
open Go.RowKit
open Go.ChangeMaps (setBlock)

theorem heap_setBlock (w : World) (m i : Nat) (o : Obj) (hm : m < w.heap.size) : (setBlock w m o).heap[i]? = if i = m then some o else w.heap[i]? := by
  unfold setBlock
  by_cases e : i = m
  · subst e; simp [hm]
  · rw [if_neg e]
    show (w.heap.setIfInBounds m o)[i]? = w.heap[i]?
    rw [Array.getElem?_setIfInBounds, if_neg (fun h => e h.symm)]

theorem below_setBlock {B : Nat} {a w : World} (h : Below B a w) {m : Nat} (hm : B ≤ m) (o : Obj) : Below B a (setBlock w m o) :=
  ⟨h.os, h.tape, h.output, by simpa [Go.ChangeMaps.setBlock] using h.size, fun k hk => by
    rw [← h.block k hk]
    show (w.heap.setIfInBounds m o)[k]? = w.heap[k]?
    rw [Array.getElem?_setIfInBounds, if_neg (by omega)]⟩

theorem set_at {w : World} {b i : Nat} {cs : Array Value} {t : TypeId} {v : Value} (h : w.heap[b]? = some (.cells cs t (0, 0))) : (w.setCell ⟨b, i, none⟩ v).heap[b]? = some (.cells (cs.setIfInBounds i v) t (0, 0)) := by
  simp [World.setCell, Array.getElem?_modify, h]

/-- What Reserve makes. -/
def ResPost (w : World) (par : Option Addr) (name text : ByteArray) (f : Bool) (e : Ending) (w' : World) : Prop :=
  ∃ b, e = .returned (.pointer (some ⟨b, 0, none⟩)) ∧ ScopeAt w' b par name text f ∧ Below w.heap.size w w'

/-- The scope's block and an empty map behind it. -/
def W2 (w : World) (par : Option Addr) : World := (w.alloc (.cells #[.pointer par, .map none, .map none, .bool false] 70)).alloc (.map #[] 0)

theorem W2_is (w : World) (par : Option Addr) : (W2 w par).heap[w.heap.size]? = some (.cells #[.pointer par, .map none, .map none, .bool false] 70 (0, 0)) ∧ (W2 w par).heap[w.heap.size + 1]? = some (.map #[] 0) ∧ (W2 w par).heap.size = w.heap.size + 2 ∧ Below w.heap.size w (W2 w par) := by
  have h := two_allocs w (.cells #[.pointer par, .map none, .map none, .bool false] 70) (.map #[] 0)
  exact ⟨h.1, h.2, by simp [W2], ((Below.refl _ _).alloc (Nat.le_refl _) _).alloc (by simp) _⟩

theorem reserve_fault (par : Option Addr) (name text : ByteArray) (w : World) : Calls Try.prog 26 #[.pointer par, .string name, .string text, .bool true] w (ResPost w par name text true) := by
  have hW := W2_is w par
  have hput := run_put68 (W2 w par) (w.heap.size + 1) name (.agg #[]) hW.2.1
  obtain ⟨w3, hw3⟩ : ∃ w3, setBlock (W2 w par) (w.heap.size + 1) (.map #[ent name (.agg #[])] 1) = w3 := ⟨_, rfl⟩
  rw [hw3] at hput
  have h3 : ∀ i, w3.heap[i]? = if i = w.heap.size + 1 then some (.map #[ent name (.agg #[])] 1) else (W2 w par).heap[i]? := fun i => by rw [← hw3]; exact heap_setBlock _ _ _ _ (by omega)
  have hb3 : w3.heap[w.heap.size]? = some (.cells #[.pointer par, .map none, .map none, .bool false] 70 (0, 0)) := by rw [h3, if_neg (by omega)]; exact hW.1
  have hm3 : w3.heap[w.heap.size + 1]? = some (.map #[ent name (.agg #[])] 1) := by rw [h3, if_pos rfl]
  have HBB : Hid (Below w.heap.size w w3) := by rw [← hw3]; exact below_setBlock hW.2.2.2 (by omega) _
  have hcc : w3.cell? ⟨w.heap.size, 2, none⟩ = some (.map none) := cell_at hb3 rfl
  have hff : w3.frozen? ⟨w.heap.size, 2, none⟩ = false := frozen_at hb3
  have HB3 := hid_of hb3
  have HM3 := hid_of hm3
  clear hb3 hm3 h3 hw3 hW
  unfold W2 at hput
  have hmm := @run_makeMap Try.prog
  go_enter Try.func26, Try.ntmps26
  go_wp2_with fail
  go_ret
  refine ⟨w.heap.size, rfl, ⟨w.heap.size + 1, ?_, ?_⟩, HBB.out.setCell (Nat.le_refl _) _⟩
  · exact set_at HB3.out
  · rw [Below.heap_setCell _ _ _ _ (by show w.heap.size + 1 ≠ w.heap.size; omega)]; exact HM3.out

set_option maxHeartbeats 400000 in
theorem reserve_val (par : Option Addr) (name text : ByteArray) (w : World) : Calls Try.prog 26 #[.pointer par, .string name, .string text, .bool false] w (ResPost w par name text false) := by
  have hW := W2_is w par
  have HW3 : Hid (Below (W2 w par).heap.size (W2 w par) ((W2 w par).alloc (.cells #[.string name] 9)) ∧ ((W2 w par).alloc (.cells #[.string name] 9)).heap[w.heap.size + 2]? = some (.cells #[.string name] 9 (0, 0)) ∧ ((W2 w par).alloc (.cells #[.string name] 9)).heap.size = w.heap.size + 3) := by
    refine ⟨(Below.refl _ _).alloc (Nat.le_refl _) _, ?_, by simp [hW.2.2.1]⟩
    have := heap_alloc_new (W2 w par) (.cells #[.string name] 9)
    rw [hW.2.2.1] at this
    exact this
  have HW := hid_of hW
  clear hW
  have hmm := @run_makeMap Try.prog
  go_enter Try.func26, Try.ntmps26
  go_wp2_with fail
  refine (whole_any text (some ⟨w.heap.size + 2, 0, none⟩) 1 1 _ (Or.inr (by simp))).mono ?_
  rintro e w5 ⟨nb, rfl, hnb, hblk, hbel⟩
  have HB5 : Hid (Below ((W2 w par).alloc (.cells #[.string name] 9)).heap.size ((W2 w par).alloc (.cells #[.string name] 9)) w5) := hbel
  have HNB : Hid (w.heap.size + 3 ≤ nb) := by rw [← HW3.out.2.2]; exact hnb
  have HBK := hid_of hblk
  clear hnb hblk hbel
  have HBW : Hid (Below w.heap.size w w5) := by
    have h1 := HW.out.2.2.1
    have h2 := HW3.out.2.2
    exact HW.out.2.2.2.trans ((HW3.out.1.mono (by omega)).trans (HB5.out.mono (by omega)))
  have HS5 : Hid (w5.heap[w.heap.size]? = some (.cells #[.pointer par, .map none, .map none, .bool false] 70 (0, 0))) := old_block (old_block HW.out.1 HW3.out.1) HB5.out
  have HM5 : Hid (w5.heap[w.heap.size + 1]? = some (.map #[] 0)) := old_block (old_block HW.out.2.1 HW3.out.1) HB5.out
  have HF5 : Hid (w5.heap[w.heap.size + 2]? = some (.cells #[.string name] 9 (0, 0))) := old_block HW3.out.2.1 HB5.out
  clear HB5 HW HW3
  have hput := run_put67 w5 (w.heap.size + 1) name (.agg #[.pointer (some ⟨nb, 0, none⟩)]) HM5.out
  obtain ⟨w3, hw3⟩ : ∃ w3, setBlock w5 (w.heap.size + 1) (.map #[ent name (.agg #[.pointer (some ⟨nb, 0, none⟩)])] 1) = w3 := ⟨_, rfl⟩
  rw [hw3] at hput
  have h3 : ∀ i, w3.heap[i]? = if i = w.heap.size + 1 then some (.map #[ent name (.agg #[.pointer (some ⟨nb, 0, none⟩)])] 1) else w5.heap[i]? := fun i => by rw [← hw3]; exact heap_setBlock _ _ _ _ (lt_of_block HM5.out)
  have hb3 : w3.heap[w.heap.size]? = some (.cells #[.pointer par, .map none, .map none, .bool false] 70 (0, 0)) := by rw [h3, if_neg (by omega)]; exact HS5.out
  have HM3 : Hid (w3.heap[w.heap.size + 1]? = some (.map #[ent name (.agg #[.pointer (some ⟨nb, 0, none⟩)])] 1)) := by rw [h3, if_pos rfl]; exact hid_of rfl
  have HF3 : Hid (w3.heap[w.heap.size + 2]? = some (.cells #[.string name] 9 (0, 0))) := by rw [h3, if_neg (by omega)]; exact HF5.out
  have HN3 : Hid (w3.heap[nb]? = w5.heap[nb]?) := by rw [h3, if_neg (by have := HNB.out; omega)]; exact hid_of rfl
  have HBB : Hid (Below w.heap.size w w3) := by rw [← hw3]; exact below_setBlock HBW.out (by omega) _
  have hcc : w3.cell? ⟨w.heap.size, 1, none⟩ = some (.map none) := cell_at hb3 rfl
  have hff : w3.frozen? ⟨w.heap.size, 1, none⟩ = false := frozen_at hb3
  have HB3 := hid_of hb3
  clear hb3 h3 hw3
  go_wp2_with fail
  go_ret
  refine ⟨w.heap.size, rfl, ⟨w.heap.size + 1, nb, ?_, ?_, w.heap.size + 2, ?_, ?_⟩, HBB.out.setCell (Nat.le_refl _) _⟩
  · exact set_at HB3.out
  · rw [Below.heap_setCell _ _ _ _ (by show w.heap.size + 1 ≠ w.heap.size; omega)]; exact HM3.out
  · rw [Below.heap_setCell _ _ _ _ (by show nb ≠ w.heap.size; have := HNB.out; omega), HN3.out]; exact HBK.out
  · rw [Below.heap_setCell _ _ _ _ (by show w.heap.size + 2 ≠ w.heap.size; omega)]; exact HF3.out

theorem reserve_any (par : Option Addr) (name text : ByteArray) (f : Bool) (w : World) : Calls Try.prog 26 #[.pointer par, .string name, .string text, .bool f] w (ResPost w par name text f) := by
  cases f with
  | true => exact reserve_fault par name text w
  | false => exact reserve_val par name text w

end Go.Proofs.Qxb6600249a
