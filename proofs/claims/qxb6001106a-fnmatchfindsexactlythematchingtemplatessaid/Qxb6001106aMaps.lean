/-
  DERIVED, BY AN AI AGENT. Seat b6001106a: a map from strings to nodes, as the model keeps it: look-up and store at a new key.
-/
import Derived.Test.Qxb6001106aBase
import Derived.ChangeMaps4
import Derived.MapKept
namespace Go.Proofs.Qxb6001106a
open Go.RowKit
open Go.ChangeMaps (setBlock)

/-- The first entry whose key is k. -/
def look (k : ByteArray) : List MapEntry → Option Value
  | [] => none
  | e :: r => match e.key with
    | .string s => if k = s then some e.val else look k r
    | _ => look k r

def AllStr (es : List MapEntry) : Prop := ∀ e ∈ es, ∃ s, e.key = .string s

theorem findNow_look (k : ByteArray) : ∀ (es : List MapEntry) (i : Nat), AllStr es → ∃ r, Instr.findNow .string (.string k) es i = some r ∧ r.map (·.2) = look k es
  | [], _, _ => ⟨none, rfl, rfl⟩
  | e :: es, i, h => by
    obtain ⟨s, hs⟩ := h e (by simp)
    have hr : AllStr es := fun x hx => h x (by simp [hx])
    simp only [Instr.findNow, look, hs, Instr.sameNow]
    cases hk : (k == s) with
    | true =>
      rw [if_pos ((MapKept.bytes_beq k s).1 hk)]
      exact ⟨_, rfl, rfl⟩
    | false =>
      rw [if_neg (fun h => by rw [(MapKept.bytes_beq k s).2 h] at hk; cases hk)]
      simp only
      exact findNow_look k es (i + 1) hr

theorem look_push (k k' : ByteArray) (v : Value) (b : Nat) : ∀ es : List MapEntry, look k es = none → look k' (es ++ [{ key := .string k, val := v, born := b }]) = if k' = k then some v else look k' es
  | [], _ => by simp [look]
  | e :: es, h => by
    simp only [List.cons_append, look] at h ⊢
    split at h
    · rename_i s hs
      split at h
      · cases h
      · rename_i hks
        have ih := look_push k k' v b es h
        rw [ih]
        by_cases h1 : k' = s
        · have : ¬ k' = k := fun h2 => hks (by rw [← h2, h1])
          rw [if_pos h1, if_neg this, if_pos h1]
        · rw [if_neg h1, if_neg h1]
    · exact look_push k k' v b es h

theorem AllStr.push {es : List MapEntry} (h : AllStr es) (k : ByteArray) (v : Value) (b : Nat) : AllStr (es ++ [{ key := .string k, val := v, born := b }]) := by
  intro e he
  simp at he
  rcases he with he | rfl
  · exact h e he
  · exact ⟨k, rfl⟩

section
variable (w : World)

theorem run_checkKey (em : Bool) (k : ByteArray) : (Instr.checkKey em 10000 9 (.string k)).run Try.prog w = .ok () w := by
  show (Instr.checkKey em (9999 + 1) 9 (.string k)).run Try.prog w = .ok () w
  rw [Instr.checkKey]
  simp [run_underlying Try.underlying9]

theorem run_look_nil (k : ByteArray) : (Instr.lookup 54 (.map none) (.string k) false).run Try.prog w = .ok (.pointer none) w := by
  simp [Instr.lookup, run_underlying Try.underlying54, run_checkKey, run_underlying Try.underlying9, Instr.findKey, Instr.findNow, Try.zeroValue33]

theorem run_look (m : Nat) (es : Array MapEntry) (clk : Nat) (hm : w.heap[m]? = some (.map es clk)) (hs : AllStr es.toList) (k : ByteArray) :
    (Instr.lookup 54 (.map (some m)) (.string k) false).run Try.prog w = .ok ((look k es.toList).getD (.pointer none)) w := by
  obtain ⟨r, h1, h2⟩ := findNow_look k es.toList 0 hs
  cases r with
  | none =>
    simp at h2
    simp [Instr.lookup, run_underlying Try.underlying54, MapKept.run_getObj_map hm, run_checkKey, run_underlying Try.underlying9, Instr.findKey, h1, Try.zeroValue33, ← h2]
  | some x =>
    simp at h2
    simp [Instr.lookup, run_underlying Try.underlying54, MapKept.run_getObj_map hm, run_checkKey, run_underlying Try.underlying9, Instr.findKey, h1, ← h2]

theorem run_store_new (m : Nat) (es : Array MapEntry) (clk : Nat) (hm : w.heap[m]? = some (.map es clk)) (hs : AllStr es.toList) (k : ByteArray) (v : Value) (hn : look k es.toList = none) :
    (Instr.mapUpdate 54 (.map (some m)) (.string k) v).run Try.prog w = .ok () (setBlock w m (.map (es.push { key := .string k, val := v, born := clk }) (clk + 1))) := by
  obtain ⟨r, h1, h2⟩ := findNow_look k es.toList 0 hs
  have h3 : r = none := by
    rw [hn] at h2
    cases r with
    | none => rfl
    | some x => simp at h2
  subst h3
  simp [Instr.mapUpdate, run_underlying Try.underlying54, MapKept.run_getObj_map hm, run_checkKey, run_underlying Try.underlying9, Instr.findKey, h1, MapKept.run_setObj_map _ hm, setBlock]

end

end Go.Proofs.Qxb6001106a
