/-
  DERIVED, BY AN AI AGENT. Seat b6001106a: a slice of bytes that the call itself makes, as a list of bytes: append of a string, of one byte; string(b).
-/
import Derived.Test.Qxb6001106aOver
import Derived.Lib.AppendStr
import Derived.Lib.UnsafeStr
import Derived.Laws.IdiomStrings
namespace Go.Proofs.Qxb6001106a
open Go.RowKit

/-- v is a slice of bytes of the call's own (in a block from B on), which reads as l. -/
def Buf (w : World) (B : Nat) (v : Value) (l : List UInt8) : Prop := w.ownsRow B 5 1 v l.length (Lib.byteCells l)

theorem Buf.nil (w : World) (B : Nat) : Buf w B (.slice none 0 0) [] := World.ownsRow_nil w B 5 1

theorem Buf.alloc {w : World} {B : Nat} {v : Value} {l : List UInt8} (h : Buf w B v l) (o : Obj) : Buf (w.alloc o) B v l := by
  obtain ⟨h1, h2⟩ := h
  refine ⟨h1, ?_⟩
  rcases h2 with h2 | ⟨g, cap, cur, hv, hg, hh, r⟩
  · exact Or.inl h2
  · have hlt : g < w.heap.size := by
      rcases Nat.lt_or_ge g w.heap.size with h | h
      · exact h
      · rw [Array.getElem?_eq_none h] at hh; cases hh
    exact Or.inr ⟨g, cap, cur, hv, hg, by rw [Below.heap_alloc _ _ _ hlt]; exact hh, r⟩

theorem Buf.grown {w w' : World} {B : Nat} {v : Value} {l : List UInt8} (h : Buf w B v l) (hb : w.grownBy w' v.ownBlock) (hB : B ≤ w.heap.size) : Below B w w' :=
  (Below.refl B w).grown hb hB (fun k hk => (World.ownsRow.lt h k hk).1)

theorem Try.info5 : ∃ i, Try.prog.info? 5 = some i ∧ i.zero = some (.int .u8 0) ∧ i.size = 1 ∧ i.bytes = 1 := by
  have h0 : (Try.prog.info? 5).map (fun i => (i.zero, i.size, i.bytes)) = some (some (.int .u8 0), 1, 1) := by kernel_rfl
  obtain ⟨i, hi, h⟩ := Option.map_eq_some_iff.1 h0
  simp only [Prod.mk.injEq] at h
  exact ⟨i, hi, h.1, h.2.1, h.2.2⟩

section
variable {w : World} {ops : Array Oper} {rest : List Oper} {o : Oper} {a : Act} {Q : Exit → Act → World → Prop}

theorem wp_app_str (hgd : o.guard = none) (sl x : Operand) (ho : o.op = .call { callee := .builtin .append, args := #[sl, x], argTypes := #[28, 9] })
    (B : Nat) (v : Value) (l : List UInt8) (s : ByteArray) (hown : Buf w B v l) (hs : a.eval sl = v) (hx : a.eval x = .string s) (hlen : l.length + s.size ≤ 140737488355328) (hbase : B ≤ w.heap.size)
    (h : ∀ v' w', Buf w' B v' (l ++ bl s) → Below B w w' → wpList Try.prog ops Q rest (a.put o.dst v') w') : wpList Try.prog ops Q (o :: rest) a w := by
  obtain ⟨i, hi, hz, hsz, hby⟩ := Try.info5
  refine Lib.wpList_append_own_string w hgd sl x 28 9 ho B 5 i Try.underlying28 Try.underlying9 hi hz hsz hby v l.length (Lib.byteCells l) hs hown s hx (by unfold maxLen; omega) hlen hbase ?_
  intro v' w' h1 h2 _
  refine h v' w' ?_ (hown.grown h2 hbase)
  have e : Lib.byteCells (l ++ bl s) = Lib.byteCells l ++ Lib.strCells s := by simp [Lib.byteCells, Lib.strCells, bl]
  have e2 : (l ++ bl s).length = l.length + s.size := by rw [List.length_append, bl_length]
  unfold Buf
  rw [e, e2]; exact h1

theorem wp_app_byte (hgd : o.guard = none) (sl x : Operand) (ho : o.op = .call { callee := .builtin .append, args := #[sl, x], argTypes := #[28, 28] })
    (B : Nat) (v : Value) (l : List UInt8) (b : UInt8) (g c : Nat) (hown : Buf w B v l) (hs : a.eval sl = v) (hx : a.eval x = .slice (some ⟨g, 0, none⟩) 1 c) (hcell : w.cell? ⟨g, 0, none⟩ = some (.int .u8 b.toNat))
    (hlen : l.length + 1 ≤ 140737488355328) (hbase : B ≤ w.heap.size)
    (h : ∀ v' w', Buf w' B v' (l ++ [b]) → Below B w w' → wpList Try.prog ops Q rest (a.put o.dst v') w') : wpList Try.prog ops Q (o :: rest) a w := by
  obtain ⟨i, hi, hz, hsz, hby⟩ := Try.info5
  refine wpList_append_own w hgd sl x 28 ho B 5 i _ 1 1 Try.underlying28 hi hz hsz hby rfl (by omega) v l.length (Lib.byteCells l) hs hown ⟨g, 0, none⟩ 1 c [.int .u8 b.toNat] hx rfl ?_ ?_ (by unfold maxLen; omega) (by omega) hbase ?_
  · intro j u hj
    match j with
    | 0 => simp at hj; subst hj; exact hcell
    | j + 1 => simp at hj
  · intro u hu; simp at hu; subst hu; rfl
  · intro v' w' h1 h2 _
    refine h v' w' ?_ (hown.grown h2 hbase)
    have e : Lib.byteCells (l ++ [b]) = Lib.byteCells l ++ [.int .u8 b.toNat] := by simp [Lib.byteCells]
    have e2 : (l ++ [b]).length = l.length + 1 := by simp
    unfold Buf
    rw [e, e2]; exact h1
end

theorem run_string_buf {w : World} {B : Nat} {v : Value} {l : List UInt8} (h : Buf w B v l) : (convert 28 9 v).run Try.prog w = .ok (.string ⟨l.toArray⟩) w := by
  obtain ⟨h1, h2⟩ := h
  rcases h2 with ⟨hv, hl⟩ | ⟨g, cap, cur, hv, hg, hh, hcap, hm, hcs, hxs⟩
  · subst hv
    have : l = [] := List.eq_nil_of_length_eq_zero hl
    subst this
    rw [run_convert_bytes_string w 28 9 5 none 0 0 Try.underlying28 Try.underlying5 Try.underlying9]
    rfl
  · subst hv
    refine run_convert_bytes_back w 28 9 5 ⟨g, 0, none⟩ cap l Try.underlying28 Try.underlying5 Try.underlying9 ?_
    intro j hj
    have hj2 : (cur.toList.take (l.length * 1))[j]? = (Lib.byteCells l)[j]? := by rw [hxs]
    rw [List.getElem?_take_of_lt (by omega)] at hj2
    have e : (Lib.byteCells l)[j]? = some (.int .u8 (l[j].toNat : Int)) := by simp [Lib.byteCells, hj]
    rw [e] at hj2
    have hadd : (⟨g, 0, none⟩ : Addr).add j = ⟨g, j, none⟩ := by
      unfold Addr.add
      split
      · rename_i h0; subst h0; rfl
      · simp
    rw [hadd]
    simp [World.cell?, hh]
    simpa using hj2

end Go.Proofs.Qxb6001106a
