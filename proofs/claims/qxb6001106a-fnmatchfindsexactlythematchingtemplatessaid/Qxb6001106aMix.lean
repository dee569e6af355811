/-
  DERIVED, BY AN AI AGENT. Seat b6001106a: 'n.mixed = append(n.mixed, mixedChild{..})': where the new row lies.
-/
import Derived.Test.Qxb6001106aSteps
namespace Go.Proofs.Qxb6001106a
open Go.RowKit

theorem Try.info66 : ∃ i z, Try.prog.info? 66 = some i ∧ i.zero = some z ∧ i.size = 2 ∧ i.bytes = 32 ∧ z.cells.size = 2 := by
  have h0 : (Try.prog.info? 66).map (fun i => (i.zero.map (fun z => z.cells.size), i.size, i.bytes)) = some (some 2, 2, 32) := by kernel_rfl
  obtain ⟨i, hi, h⟩ := Option.map_eq_some_iff.1 h0
  simp only [Prod.mk.injEq] at h
  obtain ⟨z, hz, hz2⟩ := Option.map_eq_some_iff.1 h.1
  exact ⟨i, z, hi, hz, h.2.1, h.2.2, hz2⟩

/-- Behind an append the slice lies in its own old row or in a new block. -/
theorem run_append_mix (w : World) (ty : TypeId) (v : Value) (n : Nat) (xs : List Value) (hown : w.ownsRow 0 66 2 v n xs) (ad : Addr) (c : Nat) (x0 x1 : Value)
    (h0 : w.cell? ad = some x0) (h1 : w.cell? (ad.add 1) = some x1) (ho : x0.oneCell' = true) (ho1 : x1.oneCell' = true) (hn : n ≤ 1073741824) :
    ∃ v' w', (Builtin.append_ #[55, 55] ty #[v, .slice (some ad) 1 c]).run Try.prog w = .ok v' w' ∧ w'.ownsRow 0 66 2 v' (n + 1) (xs ++ [x0, x1]) ∧ w.grownBy w' v.ownBlock ∧
      (∀ g, v'.ownBlock = some g → v.ownBlock = some g ∨ g = w.heap.size) := by
  obtain ⟨i, z, hi, hz, hsz, hby, hzs⟩ := Try.info66
  have hnews : ∀ j u, ([x0, x1] : List Value)[j]? = some u → w.cell? (ad.add j) = some u := by
    intro j u hj
    match j with
    | 0 => simp at hj; subst hj; simpa [Addr.add] using h0
    | 1 => simp at hj; subst hj; exact h1
    | j + 2 => simp at hj
  have hone : ∀ u ∈ ([x0, x1] : List Value), u.oneCell' = true := by
    intro u hu
    simp at hu
    rcases hu with rfl | rfl
    · exact ho
    · exact ho1
  obtain ⟨v', w', hr, k1, k2, _⟩ := run_append_own (P := Try.prog) w 0 55 ty 66 i z 2 32 Try.underlying55 hi hz hsz hby hzs (by omega) v n xs hown ad 1 c [x0, x1] rfl hnews hone (by unfold maxLen; omega) (by omega) (Nat.zero_le _)
  refine ⟨v', w', hr, k1, k2, ?_⟩
  rcases hown.2 with ⟨rfl, rfl⟩ | ⟨g, cap, cur, rfl, hbg, hg, hnc, hcm, hcs, htake⟩
  · have hr2 := run_append_nil (P := Try.prog) w 55 ty 66 i z Try.underlying55 hi hz ad 1 c [x0, x1] (by rw [hsz]; rfl) hnews (by omega) (by omega) (by rw [hby]; omega)
    rw [hr] at hr2
    simp only [Result.ok.injEq] at hr2
    rw [hr2.1]
    intro g hg
    right
    simp [Value.ownBlock] at hg
    exact hg.symm
  · by_cases hroom : n + 1 ≤ cap
    · have hr2 := run_append_room (P := Try.prog) w 55 ty 66 i Try.underlying55 hi g n cap cur hg ad 1 c [x0, x1] (by rw [hsz]; rfl) hnews hone hroom (by rw [hsz, hcs]; simp; omega)
      rw [hr] at hr2
      simp only [Result.ok.injEq] at hr2
      rw [hr2.1]
      intro g' hg'
      left
      simpa [Value.ownBlock] using hg'
    · have holds : ∀ j u, xs[j]? = some u → w.cell? ((⟨g, 0, none⟩ : Addr).add j) = some u := hown.cells (g := g) rfl
      have hr2 := run_append_grow (P := Try.prog) w 55 ty 66 i z Try.underlying55 hi hz ⟨g, 0, none⟩ n cap xs (by rw [hsz]; exact hown.1) holds ad 1 c [x0, x1] (by rw [hsz]; rfl) hnews (by omega) (by omega) (by rw [hby]; exact growslice_fits (by omega) (by omega))
      rw [hr] at hr2
      simp only [Result.ok.injEq] at hr2
      rw [hr2.1]
      intro g' hg'
      right
      simp [Value.ownBlock] at hg'
      exact hg'.symm

theorem wp_app_mix {w : World} {ops : Array Oper} {rest : List Oper} {o : Oper} {a : Act} {Q : Exit → Act → World → Prop} (hgd : o.guard = none) (sl x : Operand) (ho : o.op = .call { callee := .builtin .append, args := #[sl, x], argTypes := #[55, 55] })
    (v : Value) (n : Nat) (xs : List Value) (hown : w.ownsRow 0 66 2 v n xs) (ad : Addr) (c : Nat) (x0 x1 : Value) (hs : a.eval sl = v) (hx : a.eval x = .slice (some ad) 1 c)
    (h0 : w.cell? ad = some x0) (h1 : w.cell? (ad.add 1) = some x1) (ho0 : x0.oneCell' = true) (ho1 : x1.oneCell' = true) (hn : n ≤ 1073741824)
    (h : ∀ v' w', w'.ownsRow 0 66 2 v' (n + 1) (xs ++ [x0, x1]) → w.grownBy w' v.ownBlock → (∀ g, v'.ownBlock = some g → v.ownBlock = some g ∨ g = w.heap.size) → wpList Try.prog ops Q rest (a.put o.dst v') w') : wpList Try.prog ops Q (o :: rest) a w := by
  refine wpList_plain hgd fun K hK => ?_
  obtain ⟨v', w', hr, h2, h3, h4⟩ := run_append_mix w o.type v n xs hown ad c x0 x1 h0 h1 ho0 ho1 hn
  unfold Oper.wp execOp
  simp only [ho, resolve, invoke, builtin, Sem.run_bind, Sem.run_pure, Result.andThen_ok, List.map_toArray, List.map_cons, List.map_nil, hs, hx, hr]
  exact hK _ _ (h v' w' h2 h3 h4)

theorem MapOK.lookup {w : World} {own : Own} {q : List Key × Nat} {v : Value} {g : List UInt8 → Option Nat} (h : MapOK w own q v g) (t : ByteArray) : (Instr.lookup 54 v (.string t) false).run Try.prog w = .ok (ptrO (g (bl t))) w := by
  rcases h with ⟨rfl, h⟩ | ⟨m, es, clk, rfl, _, h2, h3, h4⟩
  · rw [run_look_nil, h]; rfl
  · rw [run_look w m es clk h2 h3, h4]
    cases g (bl t) <;> rfl

end Go.Proofs.Qxb6001106a
