/-
  DERIVED, BY AN AI AGENT. Seat b6600249a: A SLICE OF STRINGS THAT CAME IN, opened to 'StrsAt'.
-/
import Derived.Test.Qxb6600249aRows
import Derived.Test.Qxb6600249aBase
import Derived.ProofKit
import Derived.OpenShut
namespace Go.Proofs.Qxb6600249a
open Go.ChangeShapes Go.WideShapes Go.ChangeAt Go.RowKit

theorem Try.own : ownKnob Try.prog.godebug = none := by kernel_rfl
theorem Try.laidOut : laidOutB Try.prog = true := by kernel_rfl
theorem Try.cells9 : Try.prog.cellsOf 9 = 1 := by kernel_rfl

theorem strsAt_of_cells {W : World} {x : Addr} {ss : List ByteArray} (hcell : ∀ i, i < ss.length → W.cell? (x.add i) = some (.string (ss.getD i ByteArray.empty))) : StrsAt W (some x) ss := by
  intro i hi
  obtain ⟨b, off, spot⟩ := x
  have hspot : spot = none := by simpa [Addr.add] using World.cell?_spot (hcell 0 (by omega))
  subst hspot
  have h := hcell i hi
  rw [add_plain] at h
  exact ⟨b, off, rfl, World.block_lt_of_cell? W _ h, h⟩

theorem open_strsAt {H : Type} {enc : TypeId × Value → H} {W : World} {a : Option Addr} {len cap : Nat} {d : DataW H} {ps : List MemPlace} (h : DataW.Trod enc Try.prog W 0 (fun _ => true) true 22 (.slice a len cap) d ps) :
    ∃ ss, StrsAt W a ss ∧ len = ss.length ∧ ss.length ≤ cap := by
  obtain ⟨fuel, hf⟩ := h
  rcases open_strings Try.underlying22 Try.underlying9 Try.cells9 hf with ⟨hcs, _⟩ | ⟨x, l, c, ss, hcs, _, hl, hm, hz, _, hcell, _⟩
  · simp [Value.cells] at hcs
    obtain ⟨rfl, rfl, rfl⟩ := hcs
    exact ⟨[], StrsAt.nil _ _, rfl, Nat.le_refl _⟩
  · simp [Value.cells] at hcs
    obtain ⟨rfl, rfl, rfl⟩ := hcs
    simp only [if_true] at hz
    have hlen : (ss.take len).length = len := by rw [List.length_take]; omega
    refine ⟨ss.take len, strsAt_of_cells (fun i hi => ?_), hlen.symm, by omega⟩
    rw [hcell i (by omega)]
    congr 2
    rw [hlen] at hi
    simp [List.getD_eq_getElem?_getD, List.getElem?_take_of_lt hi]

end Go.Proofs.Qxb6600249a
