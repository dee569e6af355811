/-
  DERIVED, BY AN AI AGENT. Seat b6001106a: A SLICE OF SEGMENTS THAT CAME IN, opened to 'SegsAt'.
-/
import Derived.Test.Qxb6001106aOpen
import Derived.Test.Qxb6001106aSegs
import Derived.Deep.Slices
namespace Go.Proofs.Qxb6001106a
open Go.ChangeShapes Go.WideShapes Go.ChangeAt Go.RowKit Go.Deep

theorem Try.cells22 : Try.prog.cellsOf 22 = 1 := by kernel_rfl

theorem strs_of_trod {H : Type} {enc : TypeId × Value → H} {W : World} {fuel : Nat} {v : Value} {x : DataW H × List MemPlace} (h : DataW.trod enc Try.prog W 0 (fun _ => true) true fuel 22 [v] = some x) :
    ∃ a ss c, v = .slice a (List.length ss) c ∧ StrsAt W a ss ∧ ss.length ≤ c := by
  rcases open_strings Try.underlying22 Try.underlying9 Try.cells9 h with ⟨hcs, _⟩ | ⟨x, l, c, ss, hcs, _, hl, hm, hz, _, hcell, _⟩
  · cases hcs
    exact ⟨none, [], 0, rfl, StrsAt.nil _ _, Nat.le_refl _⟩
  · cases hcs
    simp only [if_true] at hz
    have hlen : (ss.take l).length = l := by rw [List.length_take]; omega
    refine ⟨some x, ss.take l, c, by rw [hlen], strsAt_of_cells (fun i hi => ?_), by omega⟩
    rw [hcell i (by omega)]
    congr 2
    rw [hlen] at hi
    simp [List.getD_eq_getElem?_getD, List.getElem?_take_of_lt hi]

theorem segs_of_cells {W : World} {x : Addr} {len : Nat} (h : ∀ i, i < len → ∃ v, W.cell? (x.add i) = some v ∧ ∃ a ss c, v = .slice a (List.length ss) c ∧ StrsAt W a ss ∧ ss.length ≤ c) : ∃ T, List.length T = len ∧ SegsAt W noOwn (some x) T := by
  have key : ∀ n, n ≤ len → ∃ T : List (List ByteArray), T.length = n ∧ ∀ j, j < n → ∃ a c, W.cell? (x.add j) = some (.slice a (T.getD j []).length c) ∧ StrsAt W a (T.getD j []) ∧ (T.getD j []).length ≤ c := by
    intro n
    induction n with
    | zero => exact fun _ => ⟨[], rfl, fun j hj => absurd hj (Nat.not_lt_zero _)⟩
    | succ n ih =>
      intro hn
      obtain ⟨T, hT, hj⟩ := ih (by omega)
      obtain ⟨v, h1, a, ss, c, rfl, h2, h3⟩ := h n (by omega)
      refine ⟨T ++ [ss], by simp [hT], fun j hlt => ?_⟩
      by_cases e : j = n
      · subst e
        have : (T ++ [ss]).getD j [] = ss := by simp [List.getD_eq_getElem?_getD, ← hT]
        rw [this]
        exact ⟨a, c, h1, h2, h3⟩
      · have : (T ++ [ss]).getD j [] = T.getD j [] := by
          simp only [List.getD_eq_getElem?_getD]
          rw [List.getElem?_append_left (by omega)]
        rw [this]
        exact hj j (by omega)
  obtain ⟨T, hT, hj⟩ := key len (Nat.le_refl _)
  refine ⟨T, hT, fun j hlt => ?_⟩
  obtain ⟨a, c, h1, h2, h3⟩ := hj j (by omega)
  obtain ⟨b, off, spot⟩ := x
  have hspot : spot = none := by
    obtain ⟨a0, c0, h0, _⟩ := hj 0 (by omega)
    simpa [Addr.add] using World.cell?_spot h0
  subst hspot
  rw [add_plain] at h1
  exact ⟨b, off, a, c, rfl, World.block_lt_of_cell? W _ h1, rfl, h1, h2, h3, fun _ _ => rfl⟩

theorem open_segsAt {H : Type} {enc : TypeId × Value → H} {W : World} {a : Option Addr} {len cap : Nat} {d : DataW H} {ps : List MemPlace} (h : DataW.Trod enc Try.prog W 0 (fun _ => true) true 29 (.slice a len cap) d ps) :
    ∃ T, SegsAt W noOwn a T ∧ len = T.length ∧ T.length ≤ cap := by
  obtain ⟨fuel, hf⟩ := h
  rcases open_slice1 Try.underlying29 Try.cells22 hf with ⟨hcs, _⟩ | ⟨x, l, c, m, n, V, D, Pl, hcs, hb, hl, hm, hmm, _, hx⟩
  · simp [Value.cells] at hcs
    obtain ⟨rfl, rfl, rfl⟩ := hcs
    exact ⟨[], fun j hj => absurd hj (Nat.not_lt_zero _), rfl, Nat.le_refl _⟩
  · simp [Value.cells] at hcs
    obtain ⟨rfl, rfl, rfl⟩ := hcs
    simp only [if_true] at hmm
    obtain ⟨T, hT, hs⟩ := segs_of_cells (W := W) (x := x) (len := len) (fun i hi => by
      obtain ⟨h1, h2⟩ := hx i (by omega)
      exact ⟨_, h1, strs_of_trod h2⟩)
    exact ⟨T, hs, hT.symm, by omega⟩

end Go.Proofs.Qxb6001106a
