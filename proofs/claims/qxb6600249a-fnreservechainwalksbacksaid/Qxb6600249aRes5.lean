/-
  DERIVED, BY AN AI AGENT. Seat b6600249a: the small readers of expand (38 .. 43, 48).
-/
import Derived.Test.Qxb6600249aRes4
import Derived.Deep.QuietTactic
namespace Go.Proofs.Qxb6600249a
open Go.RowKit

theorem run_len (w : World) (t ty : TypeId) (k e : TypeId) (ht : Try.prog.underlying t = some (.map k e)) (r : Nat) (es : Array MapEntry) (clock : Nat) (hb : w.heap[r]? = some (.map es clock)) :
    (Builtin.len_ #[t] ty #[.map (some r)]).run Try.prog w = .ok (.int .i64 es.size) w := by
  simp [Builtin.len_, run_underlying ht, MapKept.run_getObj_map hb, goInt]
theorem run_len0 (w : World) (t ty : TypeId) (k e : TypeId) (ht : Try.prog.underlying t = some (.map k e)) :
    (Builtin.len_ #[t] ty #[.map none]).run Try.prog w = .ok (.int .i64 0) w := by
  simp [Builtin.len_, run_underlying ht, goInt]

/-- Two numbers came back; all that was there is as it was. -/
def TwoPost (w : World) (v1 v2 : Value) (e : Ending) (w' : World) : Prop := e = .returned (.tuple #[v1, v2]) ∧ Below w.heap.size w w'

theorem below_drewN (w : World) (n : Nat) : Below w.heap.size w (w.drewN n) := ⟨rfl, rfl, rfl, Nat.le_refl _, fun _ _ => rfl⟩

theorem counts_val (w : World) (b : Nat) (par : Option Addr) (name text : ByteArray) (h : ScopeVal w b par name text) : Calls Try.prog 38 #[.pointer (some ⟨b, 0, none⟩)] w (TwoPost w (.int .i64 1) (.int .i64 0)) := by
  obtain ⟨m, nb, h1, h2, -⟩ := h
  have hc1 : w.cell? ⟨b, 1, none⟩ = some (.map (some m)) := cell_at h1 rfl
  have hc2 : w.cell? ⟨b, 2, none⟩ = some (.map none) := cell_at h1 rfl
  have hl1 : ∀ nq ty, (Builtin.len_ #[67] ty #[.map (some m)]).run Try.prog (w.drewN nq) = .ok (.int .i64 1) (w.drewN nq) := fun nq ty => run_len (w.drewN nq) 67 ty 9 32 Try.underlying67 m _ _ h2
  have hl2 : ∀ nq ty, (Builtin.len_ #[68] ty #[.map none]).run Try.prog (w.drewN nq) = .ok (.int .i64 0) (w.drewN nq) := fun nq ty => run_len0 _ 68 ty 9 71 Try.underlying68
  clear h1 h2
  go_enter Try.func38, Try.ntmps38
  go_wp2_with fail
  go_quiet (fail)
  go_wp2_with fail
  go_ret2
  exact ⟨rfl, below_drewN _ _⟩

theorem counts_fault (w : World) (b : Nat) (par : Option Addr) (name : ByteArray) (h : ScopeFault w b par name) : Calls Try.prog 38 #[.pointer (some ⟨b, 0, none⟩)] w (TwoPost w (.int .i64 0) (.int .i64 1)) := by
  obtain ⟨m, h1, h2⟩ := h
  have hc1 : w.cell? ⟨b, 1, none⟩ = some (.map none) := cell_at h1 rfl
  have hc2 : w.cell? ⟨b, 2, none⟩ = some (.map (some m)) := cell_at h1 rfl
  have hl1 : ∀ nq ty, (Builtin.len_ #[68] ty #[.map (some m)]).run Try.prog (w.drewN nq) = .ok (.int .i64 1) (w.drewN nq) := fun nq ty => run_len (w.drewN nq) 68 ty 9 71 Try.underlying68 m _ _ h2
  have hl2 : ∀ nq ty, (Builtin.len_ #[67] ty #[.map none]).run Try.prog (w.drewN nq) = .ok (.int .i64 0) (w.drewN nq) := fun nq ty => run_len0 _ 67 ty 9 32 Try.underlying67
  clear h1 h2
  go_enter Try.func38, Try.ntmps38
  go_wp2_with fail
  go_quiet (fail)
  go_wp2_with fail
  go_ret2
  exact ⟨rfl, below_drewN _ _⟩

theorem ownValue_val (w : World) (b m nb : Nat) (par : Option Addr) (v2 : Value) (name : ByteArray) (h1 : w.heap[b]? = some (.cells #[.pointer par, .map (some m), v2, .bool false] 70 (0, 0))) (h2 : w.heap[m]? = some (.map #[ent name (.agg #[.pointer (some ⟨nb, 0, none⟩)])] 1)) :
    Calls Try.prog 39 #[.pointer (some ⟨b, 0, none⟩), .string name] w (TwoPost w (.agg #[.pointer (some ⟨nb, 0, none⟩)]) (.bool true)) := by
  have HA : ∀ o, Hid (Below w.heap.size w (w.alloc o)) := fun o => (Below.refl _ _).alloc (Nat.le_refl _) _
  have hc1 : ∀ o, (w.alloc o).cell? ⟨b, 1, none⟩ = some (.map (some m)) := fun o => cell_at (old_block h1 (HA o).out) rfl
  have hl : ∀ o, (Instr.lookup 67 (.map (some m)) (.string name) true).run Try.prog (w.alloc o) = .ok (.tuple #[.agg #[.pointer (some ⟨nb, 0, none⟩)], .bool true]) (w.alloc o) := fun o => run_look67 _ m name _ 1 (old_block h2 (HA o).out)
  clear h1 h2
  go_enter Try.func39, Try.ntmps39
  go_wp2_with fail
  refine bodyPost_ret (v := .tuple #[.agg #[.pointer (some ⟨nb, 0, none⟩)], .bool true]) (by simp [results, Try.results39, go_sem]) rfl ?_
  exact ⟨rfl, by first | exact ((HA _).out.alloc (by simp) _) | exact ((HA _).out.alloc (by simp) _).setCell (Nat.le_refl _) _⟩

theorem ownValue_fault (w : World) (b : Nat) (par : Option Addr) (v2 : Value) (name : ByteArray) (h1 : w.heap[b]? = some (.cells #[.pointer par, .map none, v2, .bool false] 70 (0, 0))) :
    Calls Try.prog 39 #[.pointer (some ⟨b, 0, none⟩), .string name] w (TwoPost w (.agg #[.pointer none]) (.bool false)) := by
  have HA : ∀ o, Hid (Below w.heap.size w (w.alloc o)) := fun o => (Below.refl _ _).alloc (Nat.le_refl _) _
  have hc1 : ∀ o, (w.alloc o).cell? ⟨b, 1, none⟩ = some (.map none) := fun o => cell_at (old_block h1 (HA o).out) rfl
  have hl := fun w => run_look67_nil w name
  clear h1
  go_enter Try.func39, Try.ntmps39
  go_wp2_with fail
  refine bodyPost_ret (v := .tuple #[.agg #[.pointer none], .bool false]) (by simp [results, Try.results39, go_sem]) rfl ?_
  exact ⟨rfl, by first | exact ((HA _).out.alloc (by simp) _) | exact ((HA _).out.alloc (by simp) _).setCell (Nat.le_refl _) _⟩

theorem ownFaulty_fault (w : World) (b m : Nat) (par : Option Addr) (v1 : Value) (name : ByteArray) (h1 : w.heap[b]? = some (.cells #[.pointer par, v1, .map (some m), .bool false] 70 (0, 0))) (h2 : w.heap[m]? = some (.map #[ent name (.agg #[])] 1)) :
    Calls Try.prog 40 #[.pointer (some ⟨b, 0, none⟩), .string name] w (AnsK true w) := by
  have hc1 : w.cell? ⟨b, 2, none⟩ = some (.map (some m)) := cell_at h1 rfl
  have hl : (Instr.lookup 68 (.map (some m)) (.string name) true).run Try.prog w = .ok (.tuple #[.agg #[], .bool true]) w := run_look68 _ m name _ 1 h2
  clear h1 h2
  go_enter Try.func40, Try.ntmps40
  go_wp2_with fail
  go_ret
  exact AnsK.mk rfl ((Below.refl _ _).alloc (Nat.le_refl _) _)

theorem ownFaulty_val (w : World) (b : Nat) (par : Option Addr) (v1 : Value) (name : ByteArray) (h1 : w.heap[b]? = some (.cells #[.pointer par, v1, .map none, .bool false] 70 (0, 0))) :
    Calls Try.prog 40 #[.pointer (some ⟨b, 0, none⟩), .string name] w (AnsK false w) := by
  have hc1 : w.cell? ⟨b, 2, none⟩ = some (.map none) := cell_at h1 rfl
  have hl := fun w => run_look68_nil w name
  clear h1
  go_enter Try.func40, Try.ntmps40
  go_wp2_with fail
  go_ret
  exact AnsK.mk rfl ((Below.refl _ _).alloc (Nat.le_refl _) _)

/-- ZZIsZero. -/
theorem isZero_any (w : World) (nb : Nat) : Calls Try.prog 41 #[.agg #[.pointer (some ⟨nb, 0, none⟩)]] w (AnsK false w) := by
  go_enter Try.func41, Try.ntmps41
  go_wp2_with fail
  go_ret
  exact AnsK.mk rfl ((Below.refl _ _).alloc (Nat.le_refl _) _)

/-- (Value).from, ZZFrom. -/
theorem from_any (w : World) (nb fb : Nat) (c0 c1 c2 c3 : Value) (h : w.heap[nb]? = some (.cells #[c0, c1, c2, c3, .slice (some ⟨fb, 0, none⟩) 1 1] 55 (0, 0))) : Calls Try.prog 48 #[.agg #[.pointer (some ⟨nb, 0, none⟩)]] w (fun e w' => e = .returned (.slice (some ⟨fb, 0, none⟩) 1 1) ∧ Below w.heap.size w w') := by
  have HA : ∀ o, Hid (Below w.heap.size w (w.alloc o)) := fun o => (Below.refl _ _).alloc (Nat.le_refl _) _
  have hc1 : ∀ o, (w.alloc o).cell? ⟨nb, 4, none⟩ = some (.slice (some ⟨fb, 0, none⟩) 1 1) := fun o => cell_at (old_block h (HA o).out) rfl
  clear h
  go_enter Try.func48, Try.ntmps48
  go_wp2_with fail
  go_ret
  exact ⟨rfl, (HA _).out⟩

theorem zzFrom_any (w : World) (nb fb : Nat) (c0 c1 c2 c3 : Value) (h : w.heap[nb]? = some (.cells #[c0, c1, c2, c3, .slice (some ⟨fb, 0, none⟩) 1 1] 55 (0, 0))) : Calls Try.prog 42 #[.agg #[.pointer (some ⟨nb, 0, none⟩)]] w (fun e w' => e = .returned (.slice (some ⟨fb, 0, none⟩) 1 1) ∧ Below w.heap.size w w') := by
  have HA : ∀ o, Hid (Below w.heap.size w (w.alloc o)) := fun o => (Below.refl _ _).alloc (Nat.le_refl _) _
  have HC : ∀ o, Hid ((w.alloc o).heap[nb]? = some (.cells #[c0, c1, c2, c3, .slice (some ⟨fb, 0, none⟩) 1 1] 55 (0, 0))) := fun o => old_block h (HA o).out
  clear h
  go_enter Try.func42, Try.ntmps42
  go_wp2_with fail
  refine (from_any _ nb fb c0 c1 c2 c3 (HC _).out).mono ?_
  rintro e w' ⟨rfl, hb⟩
  go_wp2_with fail
  go_ret
  exact ⟨rfl, (HA _).out.trans (hb.mono (by simp))⟩

/-- ZZSizeNul. -/
theorem sizeNul_any (w : World) (nb : Nat) (c0 c1 c4 : Value) (z : Nat) (nu : Bool) (h : w.heap[nb]? = some (.cells #[c0, c1, .int .i64 z, .bool nu, c4] 55 (0, 0))) : Calls Try.prog 43 #[.agg #[.pointer (some ⟨nb, 0, none⟩)]] w (TwoPost w (.int .i64 z) (.bool nu)) := by
  have HA : ∀ o, Hid (Below w.heap.size w (w.alloc o)) := fun o => (Below.refl _ _).alloc (Nat.le_refl _) _
  have hc2 : ∀ o, (w.alloc o).cell? ⟨nb, 2, none⟩ = some (.int .i64 z) := fun o => cell_at (old_block h (HA o).out) rfl
  have hc3 : ∀ o, (w.alloc o).cell? ⟨nb, 3, none⟩ = some (.bool nu) := fun o => cell_at (old_block h (HA o).out) rfl
  clear h
  go_enter Try.func43, Try.ntmps43
  go_wp2_with fail
  go_quiet (fail)
  go_wp2_with fail
  go_ret2
  exact ⟨rfl, (HA _).out.trans ((below_drewN _ _).mono (by simp))⟩

end Go.Proofs.Qxb6600249a
