/-
  DERIVED, BY AN AI AGENT. Seat b6600249a: the rows that FnValueStringIgnoresGrouping builds: leaves, lens, all.
-/
import Derived.Test.Qxb6600249aMake
namespace Go.Proofs.Qxb6600249a
open Go.RowKit

theorem Try.info5 : ∃ i, Try.prog.info? 5 = some i ∧ i.zero = some (.int .u8 0) ∧ i.size = 1 ∧ i.bytes = 1 := by
  have h0 : (Try.prog.info? 5).map (fun i => (i.zero, i.size, i.bytes)) = some (some (.int .u8 0), 1, 1) := by kernel_rfl
  obtain ⟨i, hi, h⟩ := Option.map_eq_some_iff.1 h0
  simp only [Prod.mk.injEq] at h
  exact ⟨i, hi, h.1, h.2.1, h.2.2⟩

theorem byteCells_length (l : List UInt8) : (Lib.byteCells l).length = l.length := by simp [Lib.byteCells]
theorem byteCells_app (l : List UInt8) (s : ByteArray) : Lib.byteCells (l ++ bl s) = Lib.byteCells l ++ Lib.strCells s := by simp [Lib.byteCells, Lib.strCells, bl]

section
variable {w : World} {ops : Array Oper} {rest : List Oper} {o : Oper} {a : Act} {Q : Exit → Act → World → Prop}

theorem wp_app_str (hgd : o.guard = none) (sl x : Operand) (ho : o.op = .call { callee := .builtin .append, args := #[sl, x], argTypes := #[23, 9] })
    (B : Nat) (v : Value) (l : List UInt8) (s : ByteArray) (hown : Row w B 5 v (Lib.byteCells l)) (hs : a.eval sl = v) (hx : a.eval x = .string s) (hlen : l.length + s.size ≤ 140737488355328) (hbase : B ≤ w.heap.size)
    (h : ∀ v' w', Row w' B 5 v' (Lib.byteCells (l ++ bl s)) → w.grownBy w' v.ownBlock → wpList Try.prog ops Q rest (a.put o.dst v') w') : wpList Try.prog ops Q (o :: rest) a w := by
  obtain ⟨i, hi, hz, hsz, hby⟩ := Try.info5
  unfold Row at hown
  rw [byteCells_length] at hown
  refine Lib.wpList_append_own_string w hgd sl x 23 9 ho B 5 i Try.underlying23 Try.underlying9 hi hz hsz hby v l.length (Lib.byteCells l) hs hown s hx (by unfold maxLen; omega) hlen hbase ?_
  intro v' w' h1 h2 _
  refine h v' w' ?_ h2
  have e2 : (l ++ bl s).length = l.length + s.size := by rw [List.length_append, bl_length]
  unfold Row
  rw [byteCells_length, e2, byteCells_app]; exact h1
end

theorem run_string_buf {w : World} {B : Nat} {v : Value} {l : List UInt8} (h : Row w B 5 v (Lib.byteCells l)) : (convert 23 9 v).run Try.prog w = .ok (.string ⟨l.toArray⟩) w := by
  obtain ⟨h1, h2⟩ := h
  rw [byteCells_length] at h2
  rcases h2 with ⟨hv, hl⟩ | ⟨g, cap, cur, hv, hg, hh, hcap, hm, hcs, hxs⟩
  · subst hv
    have : l = [] := List.eq_nil_of_length_eq_zero hl
    subst this
    rw [run_convert_bytes_string w 23 9 5 none 0 0 Try.underlying23 Try.underlying5 Try.underlying9]
    rfl
  · subst hv
    refine run_convert_bytes_back w 23 9 5 ⟨g, 0, none⟩ cap l Try.underlying23 Try.underlying5 Try.underlying9 ?_
    intro j hj
    have hj2 : (cur.toList.take (l.length * 1))[j]? = (Lib.byteCells l)[j]? := by rw [hxs]
    rw [List.getElem?_take_of_lt (by omega)] at hj2
    have e : (Lib.byteCells l)[j]? = some (.int .u8 (l[j].toNat : Int)) := by simp [Lib.byteCells, hj]
    rw [e] at hj2
    have hadd : (⟨g, 0, none⟩ : Addr).add j = ⟨g, j, none⟩ := by
      unfold Addr.add
      split
      · rename_i h0; subst h0; rfl
      · simp
    rw [hadd]
    simp [World.cell?, hh]
    simpa using hj2

/-- A leaf: its block, its text. -/
abbrev Lf := Nat × ByteArray
def Lf.ptr (x : Lf) : Value := .pointer (some ⟨x.1, 0, none⟩)
def Leaf (w : World) (x : Lf) : Prop := ∃ c2 c3 c4, w.heap[x.1]? = some (.cells #[.string x.2, .slice none 0 0, c2, c3, c4] 55 (0, 0))
def txt (L : List Lf) : List UInt8 := (L.map fun x => bl x.2).flatten
def num (n : Nat) : Value := .int .i64 n

theorem txt_snoc (L : List Lf) (x : Lf) : txt (L ++ [x]) = txt L ++ bl x.2 := by simp [txt]

structure LS (w0 : World) (L : List Lf) (lv : Value) (lens : List Nat) (ln : Value) (bs : List UInt8) (al : Value) (wr : World) : Prop where
  bel : Below w0.heap.size w0 wr
  r1 : Row wr w0.heap.size 32 lv (L.map Lf.ptr)
  r2 : Row wr w0.heap.size 3 ln (lens.map num)
  r3 : Row wr w0.heap.size 5 al (Lib.byteCells bs)
  leaf : ∀ x ∈ L, Leaf wr x

section
variable {w0 wr w' : World} {L : List Lf} {lv ln al v' : Value} {lens : List Nat} {bs : List UInt8}

theorem LS.later (h : LS w0 L lv lens ln bs al wr) (hb : Below wr.heap.size wr w') : LS w0 L lv lens ln bs al w' :=
  ⟨h.bel.trans (hb.mono h.bel.size), h.r1.later hb, h.r2.later hb, h.r3.later hb, fun x hx => by
    obtain ⟨c2, c3, c4, e⟩ := h.leaf x hx
    exact ⟨c2, c3, c4, by rw [hb.block _ (lt_of_block e)]; exact e⟩⟩

theorem LS.push1 (h : LS w0 L lv lens ln bs al wr) (x : Lf) (hx : Leaf wr x) (hr : Row w' w0.heap.size 32 v' (L.map Lf.ptr ++ [x.ptr])) (hg : wr.grownBy w' lv.ownBlock) : LS w0 (L ++ [x]) v' lens ln bs al w' := by
  refine ⟨h.bel.trans (h.r1.below hg h.bel.size), by simpa using hr, h.r2.other hg h.r1.block (by decide), h.r3.other hg h.r1.block (by decide), fun y hy => ?_⟩
  have hly : Leaf wr y := by
    rcases List.mem_append.1 hy with hy | hy
    · exact h.leaf y hy
    · simp at hy; subst hy; exact hx
  obtain ⟨c2, c3, c4, e⟩ := hly
  exact ⟨c2, c3, c4, other_block hg h.r1.block e (by decide)⟩

theorem LS.push2 (h : LS w0 L lv lens ln bs al wr) (n : Nat) (hr : Row w' w0.heap.size 3 v' (lens.map num ++ [num n])) (hg : wr.grownBy w' ln.ownBlock) : LS w0 L lv (lens ++ [n]) v' bs al w' := by
  refine ⟨h.bel.trans (h.r2.below hg h.bel.size), h.r1.other hg h.r2.block (by decide), by simpa using hr, h.r3.other hg h.r2.block (by decide), fun y hy => ?_⟩
  obtain ⟨c2, c3, c4, e⟩ := h.leaf y hy
  exact ⟨c2, c3, c4, other_block hg h.r2.block e (by decide)⟩

theorem LS.push3 (h : LS w0 L lv lens ln bs al wr) (s : ByteArray) (hr : Row w' w0.heap.size 5 v' (Lib.byteCells (bs ++ bl s))) (hg : wr.grownBy w' al.ownBlock) : LS w0 L lv lens ln (bs ++ bl s) v' w' := by
  refine ⟨h.bel.trans (h.r3.below hg h.bel.size), h.r1.other hg h.r3.block (by decide), h.r2.other hg h.r3.block (by decide), hr, fun y hy => ?_⟩
  obtain ⟨c2, c3, c4, e⟩ := h.leaf y hy
  exact ⟨c2, c3, c4, other_block hg h.r3.block e (by decide)⟩

theorem LS.start (w0 : World) : LS w0 [] (.slice none 0 0) [] (.slice none 0 0) [] (.slice none 0 0) w0 :=
  ⟨Below.refl _ _, World.ownsRow_nil _ _ _ _, World.ownsRow_nil _ _ _ _, World.ownsRow_nil _ _ _ _, fun _ hx => by cases hx⟩
end

theorem tot_take (ss : List ByteArray) (k : Nat) : tot (ss.take k) ≤ tot ss := by
  have : tot ss = tot (ss.take k) + tot (ss.drop k) := by
    conv => lhs; rw [← List.take_append_drop k ss]
    unfold tot
    rw [List.map_append, List.sum_append]
  omega

end Go.Proofs.Qxb6600249a
