/-
  DERIVED, BY AN AI AGENT. Seat b6600249a: SCOPES IN MEMORY; the small readers of expand (29, 31, 38 .. 43, 48).
-/
import Derived.Test.Qxb6600249aRes3
namespace Go.Proofs.Qxb6600249a
open Go.RowKit
open Go.ChangeMaps (setBlock)

/-- The node that Reserve's whole makes. -/
def NodeIs (w : World) (nb : Nat) (name text : ByteArray) : Prop :=
  ∃ fb, w.heap[nb]? = some (.cells #[.string text, .slice none 0 0, .int .i64 text.size, .bool (nul text), .slice (some ⟨fb, 0, none⟩) 1 1] 55 (0, 0)) ∧ w.heap[fb]? = some (.cells #[.string name] 9 (0, 0))

/-- A scope that defines name as text. -/
def ScopeVal (w : World) (b : Nat) (par : Option Addr) (name text : ByteArray) : Prop :=
  ∃ m nb, w.heap[b]? = some (.cells #[.pointer par, .map (some m), .map none, .bool false] 70 (0, 0)) ∧ w.heap[m]? = some (.map #[ent name (.agg #[.pointer (some ⟨nb, 0, none⟩)])] 1) ∧ NodeIs w nb name text

/-- A scope that leaves name faulty. -/
def ScopeFault (w : World) (b : Nat) (par : Option Addr) (name : ByteArray) : Prop :=
  ∃ m, w.heap[b]? = some (.cells #[.pointer par, .map none, .map (some m), .bool false] 70 (0, 0)) ∧ w.heap[m]? = some (.map #[ent name (.agg #[])] 1)

def ScopeAt (w : World) (b : Nat) (par : Option Addr) (name text : ByteArray) : Bool → Prop
  | true => ScopeFault w b par name
  | false => ScopeVal w b par name text

section
variable {w w' : World} {b nb : Nat} {par : Option Addr} {name text : ByteArray}
theorem old_block {o : Obj} (h : w.heap[b]? = some o) (hb : Below w.heap.size w w') : w'.heap[b]? = some o := by rw [hb.block b (lt_of_block h)]; exact h
theorem NodeIs.later (h : NodeIs w nb name text) (hb : Below w.heap.size w w') : NodeIs w' nb name text := by
  obtain ⟨fb, h1, h2⟩ := h
  exact ⟨fb, old_block h1 hb, old_block h2 hb⟩
theorem ScopeVal.later (h : ScopeVal w b par name text) (hb : Below w.heap.size w w') : ScopeVal w' b par name text := by
  obtain ⟨m, nb, h1, h2, h3⟩ := h
  exact ⟨m, nb, old_block h1 hb, old_block h2 hb, h3.later hb⟩
theorem ScopeFault.later (h : ScopeFault w b par name) (hb : Below w.heap.size w w') : ScopeFault w' b par name := by
  obtain ⟨m, h1, h2⟩ := h
  exact ⟨m, old_block h1 hb, old_block h2 hb⟩
theorem ScopeAt.later {f : Bool} (h : ScopeAt w b par name text f) (hb : Below w.heap.size w w') : ScopeAt w' b par name text f := by
  cases f with
  | true => exact ScopeFault.later h hb
  | false => exact ScopeVal.later h hb

/-- The block of a scope. -/
theorem ScopeAt.block {f : Bool} (h : ScopeAt w b par name text f) : ∃ v1 v2, w.heap[b]? = some (.cells #[.pointer par, v1, v2, .bool false] 70 (0, 0)) := by
  cases f with
  | true => obtain ⟨m, h1, _⟩ := h; exact ⟨_, _, h1⟩
  | false => obtain ⟨m, nb, h1, _⟩ := h; exact ⟨_, _, h1⟩

theorem cell_at {cs : Array Value} {t : TypeId} {i : Nat} {v : Value} (h : w.heap[b]? = some (.cells cs t (0, 0))) (hv : cs[i]? = some v) : w.cell? ⟨b, i, none⟩ = some v := by
  simp [World.cell?, h, hv]
theorem frozen_at {cs : Array Value} {t : TypeId} {i : Nat} (h : w.heap[b]? = some (.cells cs t (0, 0))) : w.frozen? ⟨b, i, none⟩ = false := by
  simp [World.frozen?, h]
end

/-- ZZImports, ZZParent. -/
theorem imports_any (w : World) (b : Nat) (par : Option Addr) (name text : ByteArray) (f : Bool) (h : ScopeAt w b par name text f) : Calls Try.prog 29 #[.pointer (some ⟨b, 0, none⟩)] w (fun e w' => e = .returned (.bool false) ∧ w' = w) := by
  obtain ⟨v1, v2, h1⟩ := h.block
  have hc := cell_at (i := 3) h1 rfl
  clear h h1
  go_enter Try.func29, Try.ntmps29
  go_wp2
  go_ret
  exact ⟨rfl, rfl⟩

theorem parent_any (w : World) (b : Nat) (par : Option Addr) (name text : ByteArray) (f : Bool) (h : ScopeAt w b par name text f) : Calls Try.prog 31 #[.pointer (some ⟨b, 0, none⟩)] w (fun e w' => e = .returned (.pointer par) ∧ w' = w) := by
  obtain ⟨v1, v2, h1⟩ := h.block
  have hc := cell_at (i := 0) h1 rfl
  clear h h1
  go_enter Try.func31, Try.ntmps31
  go_wp2
  go_ret
  exact ⟨rfl, rfl⟩

end Go.Proofs.Qxb6600249a
