/-
  DERIVED, BY AN AI AGENT. Seat b6600249a: maps of one entry, keyed by strings; a scope that Reserve makes.
-/
import Derived.Test.Qxb6600249aRes1
import Derived.Test.Qxb6600249aMake
import Derived.ChangeMaps4
import Derived.MapKept
namespace Go.Proofs.Qxb6600249a
open Go.RowKit
open Go.ChangeMaps (setBlock)

/-- The one entry. -/
def ent (k : ByteArray) (v : Value) : MapEntry := { key := .string k, val := v, born := 0 }

section
variable (w : World)

theorem run_checkKey (em : Bool) (k : ByteArray) : (Instr.checkKey em 10000 9 (.string k)).run Try.prog w = .ok () w := by
  show (Instr.checkKey em (9999 + 1) 9 (.string k)).run Try.prog w = .ok () w
  rw [Instr.checkKey]
  simp [run_underlying Try.underlying9]

theorem findNow_one (k : ByteArray) (v : Value) : Instr.findNow .string (.string k) [ent k v] 0 = some (some (0, v)) := by
  simp [Instr.findNow, ent, Instr.sameNow, (MapKept.bytes_beq k k).2 rfl]

theorem run_look67 (m : Nat) (k : ByteArray) (v : Value) (c : Nat) (hm : w.heap[m]? = some (.map #[ent k v] c)) :
    (Instr.lookup 67 (.map (some m)) (.string k) true).run Try.prog w = .ok (.tuple #[v, .bool true]) w := by
  simp [Instr.lookup, run_underlying Try.underlying67, MapKept.run_getObj_map hm, run_checkKey, run_underlying Try.underlying9, Instr.findKey, findNow_one]

theorem run_look68 (m : Nat) (k : ByteArray) (v : Value) (c : Nat) (hm : w.heap[m]? = some (.map #[ent k v] c)) :
    (Instr.lookup 68 (.map (some m)) (.string k) true).run Try.prog w = .ok (.tuple #[v, .bool true]) w := by
  simp [Instr.lookup, run_underlying Try.underlying68, MapKept.run_getObj_map hm, run_checkKey, run_underlying Try.underlying9, Instr.findKey, findNow_one]

theorem run_look67_nil (k : ByteArray) : (Instr.lookup 67 (.map none) (.string k) true).run Try.prog w = .ok (.tuple #[.agg #[.pointer none], .bool false]) w := by
  simp [Instr.lookup, run_underlying Try.underlying67, run_checkKey, run_underlying Try.underlying9, Instr.findKey, Instr.findNow, Try.zeroValue32]

theorem run_look68_nil (k : ByteArray) : (Instr.lookup 68 (.map none) (.string k) true).run Try.prog w = .ok (.tuple #[.agg #[], .bool false]) w := by
  simp [Instr.lookup, run_underlying Try.underlying68, run_checkKey, run_underlying Try.underlying9, Instr.findKey, Instr.findNow, Try.zeroValue71]

theorem run_put67 (m : Nat) (k : ByteArray) (v : Value) (hm : w.heap[m]? = some (.map #[] 0)) :
    (Instr.mapUpdate 67 (.map (some m)) (.string k) v).run Try.prog w = .ok () (setBlock w m (.map #[ent k v] 1)) := by
  simp [Instr.mapUpdate, run_underlying Try.underlying67, MapKept.run_getObj_map hm, run_checkKey, run_underlying Try.underlying9, Instr.findKey, Instr.findNow, MapKept.run_setObj_map _ hm, setBlock, ent]

theorem run_put68 (m : Nat) (k : ByteArray) (v : Value) (hm : w.heap[m]? = some (.map #[] 0)) :
    (Instr.mapUpdate 68 (.map (some m)) (.string k) v).run Try.prog w = .ok () (setBlock w m (.map #[ent k v] 1)) := by
  simp [Instr.mapUpdate, run_underlying Try.underlying68, MapKept.run_getObj_map hm, run_checkKey, run_underlying Try.underlying9, Instr.findKey, Instr.findNow, MapKept.run_setObj_map _ hm, setBlock, ent]
end

end Go.Proofs.Qxb6600249a
