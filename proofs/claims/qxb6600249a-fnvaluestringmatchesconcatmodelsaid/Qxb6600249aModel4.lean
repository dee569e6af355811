/-
  DERIVED, BY AN AI AGENT. Seat b6600249a: the model's three rows vals, strs, ws, and what their entries are.
-/
import Derived.Test.Qxb6600249aModel3
import Derived.Deep.RegionLaw
namespace Go.Proofs.Qxb6600249a
open Go.RowKit

theorem Try.info9' : ∃ i z, Try.prog.info? 9 = some i ∧ i.zero = some z ∧ i.size = 1 ∧ i.bytes ≤ 24 ∧ z.cells.size = 1 := by
  have h0 : (Try.prog.info? 9).map (fun i => (i.zero.map (fun z => z.cells.size), i.size, i.bytes)) = some (some 1, 1, 16) := by kernel_rfl
  obtain ⟨i, hi, h⟩ := Option.map_eq_some_iff.1 h0
  simp only [Prod.mk.injEq] at h
  obtain ⟨z, hz, hz2⟩ := Option.map_eq_some_iff.1 h.1
  exact ⟨i, z, hi, hz, h.2.1, by omega, hz2⟩

theorem Row.at_ {w : World} {e : TypeId} {B g n cap : Nat} {v : Value} {xs : List Value} (h : Row w B e v xs) (hv : v = .slice (some ⟨g, 0, none⟩) n cap) (hn : xs.length = n) (j : Nat) (hj : j < n) : w.cell? ⟨g, j, none⟩ = xs[j]? := by
  unfold Row at h
  rw [hv, hn] at h
  exact h.cellAt j (by omega)

/-- The blocks of the three rows. -/
def rows3 (lv ls lw : Value) : Nat → Prop := fun x => lv.ownBlock = some x ∨ ls.ownBlock = some x ∨ lw.ownBlock = some x

def It.str (x : It) : Value := .string x.t
def It.num (x : It) : Value := .int .i64 x.n
def It.ok (x : It) : Prop := x.k + 1 ≤ 4 * x.n ∧ x.n ≤ 4194304 ∧ x.t.size ≤ 4194304

structure MS (w0 : World) (S : List It) (A Bs C : List Value) (lv ls lw : Value) (wr : World) : Prop where
  bel : Below w0.heap.size w0 wr
  r1 : Row wr w0.heap.size 32 lv A
  r2 : Row wr w0.heap.size 9 ls Bs
  r3 : Row wr w0.heap.size 3 lw C
  it : ∀ x ∈ S, IsV wr (rows3 lv ls lw) x.p (bl x.t) x.k

section
variable {w0 wr w' : World} {S : List It} {A Bs C A' : List Value} {lv ls lw v' : Value}

theorem MS.start (w0 : World) : MS w0 [] [] [] [] (.slice none 0 0) (.slice none 0 0) (.slice none 0 0) w0 :=
  ⟨Below.refl _ _, World.ownsRow_nil _ _ _ _, World.ownsRow_nil _ _ _ _, World.ownsRow_nil _ _ _ _, fun _ hx => by cases hx⟩

theorem MS.later (h : MS w0 S A Bs C lv ls lw wr) (hb : Below wr.heap.size wr w') : MS w0 S A Bs C lv ls lw w' :=
  ⟨h.bel.trans (hb.mono h.bel.size), h.r1.later hb, h.r2.later hb, h.r3.later hb, fun x hx => (h.it x hx).later hb⟩

theorem MS.low (h : MS w0 S A Bs C lv ls lw wr) : ∀ x, wr.heap.size ≤ x → ¬ rows3 lv ls lw x := fun x hx e => by
  rcases e with e | e | e
  · have := (World.ownsRow.lt h.r1 x e).2; omega
  · have := (World.ownsRow.lt h.r2 x e).2; omega
  · have := (World.ownsRow.lt h.r3 x e).2; omega

theorem MS.app1 (h : MS w0 S A Bs C lv ls lw wr) (hr : Row w' w0.heap.size 32 v' A') (hg : wr.grownBy w' lv.ownBlock) (hp : ∀ g, v'.ownBlock = some g → lv.ownBlock = some g ∨ g = wr.heap.size) : MS w0 S A' Bs C v' ls lw w' := by
  refine ⟨h.bel.trans (h.r1.below hg h.bel.size), hr, h.r2.other hg h.r1.block (by decide), h.r3.other hg h.r1.block (by decide), fun x hx => (h.it x hx).turn (fun y hy hn => hg.block y hy (fun e => hn (Or.inl e.symm))) (fun y hy => ?_)⟩
  rcases hy with hy | hy
  · rcases hp y hy with h1 | h1
    · exact Or.inl (Or.inl h1)
    · right; omega
  · exact Or.inl (Or.inr hy)

theorem MS.app2 (h : MS w0 S A Bs C lv ls lw wr) (hr : Row w' w0.heap.size 9 v' A') (hg : wr.grownBy w' ls.ownBlock) (hp : ∀ g, v'.ownBlock = some g → ls.ownBlock = some g ∨ g = wr.heap.size) : MS w0 S A A' C lv v' lw w' := by
  refine ⟨h.bel.trans (h.r2.below hg h.bel.size), h.r1.other hg h.r2.block (by decide), hr, h.r3.other hg h.r2.block (by decide), fun x hx => (h.it x hx).turn (fun y hy hn => hg.block y hy (fun e => hn (Or.inr (Or.inl e.symm)))) (fun y hy => ?_)⟩
  rcases hy with hy | hy | hy
  · exact Or.inl (Or.inl hy)
  · rcases hp y hy with h1 | h1
    · exact Or.inl (Or.inr (Or.inl h1))
    · right; omega
  · exact Or.inl (Or.inr (Or.inr hy))

theorem MS.app3 (h : MS w0 S A Bs C lv ls lw wr) (hr : Row w' w0.heap.size 3 v' A') (hg : wr.grownBy w' lw.ownBlock) (hp : ∀ g, v'.ownBlock = some g → lw.ownBlock = some g ∨ g = wr.heap.size) : MS w0 S A Bs A' lv ls v' w' := by
  refine ⟨h.bel.trans (h.r3.below hg h.bel.size), h.r1.other hg h.r3.block (by decide), h.r2.other hg h.r3.block (by decide), hr, fun x hx => (h.it x hx).turn (fun y hy hn => hg.block y hy (fun e => hn (Or.inr (Or.inr e.symm)))) (fun y hy => ?_)⟩
  rcases hy with hy | hy | hy
  · exact Or.inl (Or.inl hy)
  · exact Or.inl (Or.inr (Or.inl hy))
  · rcases hp y hy with h1 | h1
    · exact Or.inl (Or.inr (Or.inr h1))
    · right; omega

theorem MS.sub {S' : List It} (h : MS w0 S A Bs C lv ls lw wr) (hS : ∀ x ∈ S', x ∈ S) : MS w0 S' A Bs C lv ls lw wr := ⟨h.bel, h.r1, h.r2, h.r3, fun x hx => h.it x (hS x hx)⟩

theorem MS.add (h : MS w0 S A Bs C lv ls lw wr) (x : It) (hx : IsV wr (rows3 lv ls lw) x.p (bl x.t) x.k) : MS w0 (S ++ [x]) A Bs C lv ls lw wr :=
  ⟨h.bel, h.r1, h.r2, h.r3, fun y hy => by
    rcases List.mem_append.1 hy with hy | hy
    · exact h.it y hy
    · simp at hy; subst hy; exact hx⟩
end

section
variable {w : World} {ops : Array Oper} {o : Oper} {a : Act} {K : Act → World → Prop} {Q : Exit → Act → World → Prop} {E : Prop}

/-- append onto an own row, as one step of a region that draws. -/
theorem step_app_row (hgd : o.guard = none) (sl x : Operand) (t e : TypeId) (ho : o.op = .call { callee := .builtin .append, args := #[sl, x], argTypes := #[t, t] })
    (ht : Try.prog.underlying t = some (.slice e)) (he : ∃ i z, Try.prog.info? e = some i ∧ i.zero = some z ∧ i.size = 1 ∧ i.bytes ≤ 24 ∧ z.cells.size = 1)
    (B : Nat) (v : Value) (xs : List Value) (hs : a.eval sl = v) (hown : Row w B e v xs) (ad : Addr) (c : Nat) (x0 : Value) (hx : a.eval x = .slice (some ad) 1 c) (h0 : w.cell? ad = some x0) (hone : x0.oneCell' = true) (hn : xs.length ≤ 1073741824) (hB : B ≤ w.heap.size)
    (h : ∀ v' w', Row w' B e v' (xs ++ [x0]) → w.grownBy w' v.ownBlock → (∀ g, v'.ownBlock = some g → v.ownBlock = some g ∨ g = w.heap.size) → K (a.put o.dst v') w') :
    if Region.wanted o (yielded ops a.tmps) = true then Oper.wp Try.prog o a w K Q else E := by
  have hw : Region.wanted o (yielded ops a.tmps) = true := by simp [Region.wanted, hgd]
  rw [if_pos hw]
  obtain ⟨v', w', hr, h2, h3, h4⟩ := run_app_row w B t e o.type ht he v xs hown ad c x0 h0 hone hn hB
  unfold Oper.wp
  simp [execOp, ho, resolve, invoke, builtin, hs, hx, hr, Result.andThen]
  exact h v' w' h2 h3 h4
end

end Go.Proofs.Qxb6600249a
