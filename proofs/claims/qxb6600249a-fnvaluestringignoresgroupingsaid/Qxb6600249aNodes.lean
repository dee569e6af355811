/-
  DERIVED, BY AN AI AGENT. Seat b6600249a: VALUES IN MEMORY: 'NAt w G b s k': block b is a node whose text is s, of weight k, and nothing of it lies in a block of G. Rows of the call's own; append onto them.
-/
import Derived.Test.Qxb6600249aBase
import Derived.Test.Qxb6600249aShelf
import Derived.Laws.OwnMore
import Derived.Lib.AppendStr
import Derived.Lib.UnsafeStr
import Derived.Laws.IdiomStrings
namespace Go.Proofs.Qxb6600249a
open Go.RowKit

mutual
inductive NAt (w : World) (G : Nat → Prop) : Nat → List UInt8 → Nat → Prop
  | leaf (b : Nat) (t : ByteArray) (c2 c3 c4 : Value) : w.heap[b]? = some (.cells #[.string t, .slice none 0 0, c2, c3, c4] 55 (0, 0)) → ¬ G b → NAt w G b (bl t) 1
  | node (b : Nat) (t : ByteArray) (pb po n c sz : Nat) (c3 c4 : Value) (s : List UInt8) (k : Nat) :
      w.heap[b]? = some (.cells #[.string t, .slice (some ⟨pb, po, none⟩) n c, .int .i64 sz, c3, c4] 55 (0, 0)) → ¬ G b → n ≤ c → sz ≤ 281474976710656 → PAt w G pb po n s k → NAt w G b s (k + 2)
inductive PAt (w : World) (G : Nat → Prop) : Nat → Nat → Nat → List UInt8 → Nat → Prop
  | nil (pb po : Nat) : PAt w G pb po 0 [] 0
  | cons (pb po n b : Nat) (s1 s2 : List UInt8) (k1 k2 : Nat) : ¬ G pb → w.cell? ⟨pb, po, none⟩ = some (.pointer (some ⟨b, 0, none⟩)) → NAt w G b s1 k1 → PAt w G pb (po + 1) n s2 k2 → PAt w G pb po (n + 1) (s1 ++ s2) (k1 + k2 + 1)
end

theorem lt_of_block {w : World} {b : Nat} {o : Obj} (h : w.heap[b]? = some o) : b < w.heap.size := (Array.getElem?_eq_some_iff.1 h).1

/-- Memory that has kept all blocks but those of G. -/
def Keeps (G : Nat → Prop) (w w' : World) : Prop := ∀ x, x < w.heap.size → ¬ G x → w'.heap[x]? = w.heap[x]?

mutual
theorem NAt.keep {w w' : World} {G G' : Nat → Prop} (hk : Keeps G w w') (hg : ∀ x, G' x → G x ∨ w.heap.size ≤ x) : ∀ {b : Nat} {s : List UInt8} {k : Nat}, NAt w G b s k → NAt w' G' b s k
  | _, _, _, .leaf b t c2 c3 c4 h hb => .leaf b t c2 c3 c4 (by rw [hk b (lt_of_block h) hb]; exact h) (fun e => by
      rcases hg b e with h1 | h1
      · exact hb h1
      · have := lt_of_block h; omega)
  | _, _, _, .node b t pb po n c sz c3 c4 s k h hb hc hz hp => .node b t pb po n c sz c3 c4 s k (by rw [hk b (lt_of_block h) hb]; exact h) (fun e => by
      rcases hg b e with h1 | h1
      · exact hb h1
      · have := lt_of_block h; omega) hc hz (PAt.keep hk hg hp)
theorem PAt.keep {w w' : World} {G G' : Nat → Prop} (hk : Keeps G w w') (hg : ∀ x, G' x → G x ∨ w.heap.size ≤ x) : ∀ {pb po n : Nat} {s : List UInt8} {k : Nat}, PAt w G pb po n s k → PAt w' G' pb po n s k
  | _, _, _, _, _, .nil pb po => .nil pb po
  | _, _, _, _, _, .cons pb po n b s1 s2 k1 k2 h hc hn hp => .cons pb po n b s1 s2 k1 k2 (fun e => by
      have hlt : pb < w.heap.size := World.block_lt_of_cell? w ⟨pb, po, none⟩ hc
      rcases hg pb e with h1 | h1
      · exact h h1
      · omega) (by
      have hlt : pb < w.heap.size := World.block_lt_of_cell? w ⟨pb, po, none⟩ hc
      rw [World.cell?_of_block (w := w) (hk pb hlt h)]; exact hc) (NAt.keep hk hg hn) (PAt.keep hk hg hp)
end

/-- No block is left out. -/
def noG : Nat → Prop := fun _ => False

theorem Keeps.of_below {w w' : World} (h : Below w.heap.size w w') (G : Nat → Prop) : Keeps G w w' := fun x hx _ => h.block x hx
theorem NAt.later {w w' : World} {G : Nat → Prop} {b : Nat} {s : List UInt8} {k : Nat} (h : NAt w G b s k) (hb : Below w.heap.size w w') : NAt w' G b s k := h.keep (Keeps.of_below hb G) (fun _ e => Or.inl e)
theorem PAt.later {w w' : World} {G : Nat → Prop} {pb po n : Nat} {s : List UInt8} {k : Nat} (h : PAt w G pb po n s k) (hb : Below w.heap.size w w') : PAt w' G pb po n s k := h.keep (Keeps.of_below hb G) (fun _ e => Or.inl e)
theorem NAt.free {w : World} {G : Nat → Prop} {b : Nat} {s : List UInt8} {k : Nat} (h : NAt w G b s k) : NAt w noG b s k := h.keep (fun _ _ _ => rfl) (fun _ e => e.elim)
theorem NAt.lt {w : World} {G : Nat → Prop} {b : Nat} {s : List UInt8} {k : Nat} (h : NAt w G b s k) : b < w.heap.size := by
  cases h with
  | leaf _ _ _ _ _ h _ => exact lt_of_block h
  | node _ _ _ _ _ _ _ _ _ _ _ h _ _ _ _ => exact lt_of_block h

/-- A stack's entry. -/
structure E where
  a : Option Addr
  n : Nat
  c : Nat
  s : List UInt8
  k : Nat
def E.val (e : E) : Value := .slice e.a e.n e.c
def E.ok (w : World) (e : E) : Prop := (e.n = 0 ∧ e.s = [] ∧ e.k = 0 ∨ ∃ pb po, e.a = some ⟨pb, po, none⟩ ∧ PAt w noG pb po e.n e.s e.k) ∧ e.n ≤ e.c
def rest (R : List E) : List UInt8 := (R.map E.s).flatten
def load (R : List E) : Nat := (R.map fun e => e.k + 1).sum

theorem Try.info32 : ∃ i z, Try.prog.info? 32 = some i ∧ i.zero = some z ∧ i.size = 1 ∧ i.bytes ≤ 24 ∧ z.cells.size = 1 := by
  have h0 : (Try.prog.info? 32).map (fun i => (i.zero.map (fun z => z.cells.size), i.size, i.bytes)) = some (some 1, 1, 8) := by kernel_rfl
  obtain ⟨i, hi, h⟩ := Option.map_eq_some_iff.1 h0
  simp only [Prod.mk.injEq] at h
  obtain ⟨z, hz, hz2⟩ := Option.map_eq_some_iff.1 h.1
  exact ⟨i, z, hi, hz, h.2.1, by omega, hz2⟩
theorem Try.info28 : ∃ i z, Try.prog.info? 28 = some i ∧ i.zero = some z ∧ i.size = 1 ∧ i.bytes ≤ 24 ∧ z.cells.size = 1 := by
  have h0 : (Try.prog.info? 28).map (fun i => (i.zero.map (fun z => z.cells.size), i.size, i.bytes)) = some (some 1, 1, 24) := by kernel_rfl
  obtain ⟨i, hi, h⟩ := Option.map_eq_some_iff.1 h0
  simp only [Prod.mk.injEq] at h
  obtain ⟨z, hz, hz2⟩ := Option.map_eq_some_iff.1 h.1
  exact ⟨i, z, hi, hz, h.2.1, by omega, hz2⟩
theorem Try.info3 : ∃ i z, Try.prog.info? 3 = some i ∧ i.zero = some z ∧ i.size = 1 ∧ i.bytes ≤ 24 ∧ z.cells.size = 1 := by
  have h0 : (Try.prog.info? 3).map (fun i => (i.zero.map (fun z => z.cells.size), i.size, i.bytes)) = some (some 1, 1, 8) := by kernel_rfl
  obtain ⟨i, hi, h⟩ := Option.map_eq_some_iff.1 h0
  simp only [Prod.mk.injEq] at h
  obtain ⟨z, hz, hz2⟩ := Option.map_eq_some_iff.1 h.1
  exact ⟨i, z, hi, hz, h.2.1, by omega, hz2⟩

/-- A row of the call's own, one cell an element. -/
abbrev Row (w : World) (B : Nat) (e : TypeId) (v : Value) (xs : List Value) : Prop := w.ownsRow B e 1 v xs.length xs

section
variable {w : World} {ops : Array Oper} {rest : List Oper} {o : Oper} {a : Act} {Q : Exit → Act → World → Prop}

theorem run_app_row (w : World) (B : Nat) (t e ty : TypeId) (ht : Try.prog.underlying t = some (.slice e)) (he : ∃ i z, Try.prog.info? e = some i ∧ i.zero = some z ∧ i.size = 1 ∧ i.bytes ≤ 24 ∧ z.cells.size = 1)
    (v : Value) (xs : List Value) (hown : Row w B e v xs) (ad : Addr) (c : Nat) (x0 : Value) (h0 : w.cell? ad = some x0) (ho : x0.oneCell' = true) (hn : xs.length ≤ 1073741824) (hB : B ≤ w.heap.size) :
    ∃ v' w', (Builtin.append_ #[t, t] ty #[v, .slice (some ad) 1 c]).run Try.prog w = .ok v' w' ∧ Row w' B e v' (xs ++ [x0]) ∧ w.grownBy w' v.ownBlock ∧
      (∀ g, v'.ownBlock = some g → v.ownBlock = some g ∨ g = w.heap.size) := by
  obtain ⟨i, z, hi, hz, hsz, hby, hzs⟩ := he
  have hnews : ∀ j u, ([x0] : List Value)[j]? = some u → w.cell? (ad.add j) = some u := by
    intro j u hj
    match j with
    | 0 => simp at hj; subst hj; simpa [Addr.add] using h0
    | j + 1 => simp at hj
  have hone : ∀ u ∈ ([x0] : List Value), u.oneCell' = true := by
    intro u hu
    simp at hu
    subst hu; exact ho
  have hbb : (xs.length + 1) * i.bytes ≤ 140737488355328 := Nat.le_trans (Nat.mul_le_mul_left _ hby) (by omega)
  obtain ⟨v', w', hr, k1, k2, _⟩ := run_append_own (P := Try.prog) w B t ty e i z 1 i.bytes ht hi hz hsz rfl hzs (by omega) v xs.length xs hown ad 1 c [x0] rfl hnews hone (by unfold maxLen; omega) hbb hB
  have hbb1 : 1 * i.bytes ≤ 281474976710656 := by omega
  refine ⟨v', w', hr, by show w'.ownsRow B e 1 v' (xs ++ [x0]).length (xs ++ [x0]); simpa using k1, k2, ?_⟩
  rcases hown.2 with ⟨rfl, hx0⟩ | ⟨g, cap, cur, rfl, hbg, hg, hnc, hcm, hcs, htake⟩
  · have hr2 := run_append_nil (P := Try.prog) w t ty e i z ht hi hz ad 1 c [x0] (by rw [hsz]; rfl) hnews (by omega) (by omega) (by omega)
    rw [hr] at hr2
    simp only [Result.ok.injEq] at hr2
    rw [hr2.1]
    intro g hg
    right
    simp [Value.ownBlock] at hg
    exact hg.symm
  · by_cases hroom : xs.length + 1 ≤ cap
    · have hr2 := run_append_room (P := Try.prog) w t ty e i ht hi g xs.length cap cur hg ad 1 c [x0] (by rw [hsz]; rfl) hnews hone hroom (by rw [hsz, hcs]; simp; omega)
      rw [hr] at hr2
      simp only [Result.ok.injEq] at hr2
      rw [hr2.1]
      intro g' hg'
      left
      simpa [Value.ownBlock] using hg'
    · have hr2 := run_append_grow (P := Try.prog) w t ty e i z ht hi hz ⟨g, 0, none⟩ xs.length cap xs (by rw [hsz]; omega) (hown.cells (g := g) rfl) ad 1 c [x0] (by rw [hsz]; rfl) hnews (by omega) (by simp only [maxLen] at hcm; omega) (growslice_fits (by omega) hbb)
      rw [hr] at hr2
      simp only [Result.ok.injEq] at hr2
      rw [hr2.1]
      intro g' hg'
      right
      simp [Value.ownBlock] at hg'
      exact hg'.symm

theorem wp_app_row (hgd : o.guard = none) (sl x : Operand) (t e : TypeId) (ho : o.op = .call { callee := .builtin .append, args := #[sl, x], argTypes := #[t, t] })
    (ht : Try.prog.underlying t = some (.slice e)) (he : ∃ i z, Try.prog.info? e = some i ∧ i.zero = some z ∧ i.size = 1 ∧ i.bytes ≤ 24 ∧ z.cells.size = 1)
    (B : Nat) (v : Value) (xs : List Value) (hs : a.eval sl = v) (hown : Row w B e v xs) (ad : Addr) (c : Nat) (x0 : Value) (hx : a.eval x = .slice (some ad) 1 c) (h0 : w.cell? ad = some x0) (hone : x0.oneCell' = true) (hn : xs.length ≤ 1073741824) (hB : B ≤ w.heap.size)
    (h : ∀ v' w', Row w' B e v' (xs ++ [x0]) → w.grownBy w' v.ownBlock → (∀ g, v'.ownBlock = some g → v.ownBlock = some g ∨ g = w.heap.size) → wpList Try.prog ops Q rest (a.put o.dst v') w') : wpList Try.prog ops Q (o :: rest) a w := by
  refine wpList_plain hgd fun K hK => ?_
  obtain ⟨v', w', hr, h2, h3, h4⟩ := run_app_row w B t e o.type ht he v xs hown ad c x0 h0 hone hn hB
  unfold Oper.wp execOp
  simp only [ho, resolve, invoke, builtin, Sem.run_bind, Sem.run_pure, Result.andThen_ok, List.map_toArray, List.map_cons, List.map_nil, hs, hx, hr]
  exact hK _ _ (h v' w' h2 h3 h4)
end

theorem Row.block {w : World} {B : Nat} {e : TypeId} {v : Value} {xs : List Value} (h : Row w B e v xs) : ∀ g, v.ownBlock = some g → ∃ cs fz, w.heap[g]? = some (.cells cs e fz) := by
  intro g hv
  rcases h.2 with ⟨rfl, _⟩ | ⟨g', cap, cur, rfl, _, hh, _⟩
  · cases hv
  · cases hv; exact ⟨_, _, hh⟩

/-- A row of e's turns: a block of another kind is as it was. -/
theorem other_block {w w' : World} {row : Option Nat} {e : TypeId} (hg : w.grownBy w' row) (hrow : ∀ g, row = some g → ∃ cs fz, w.heap[g]? = some (.cells cs e fz)) {b : Nat} {cs : Array Value} {e' : TypeId} {fz : Nat × Nat} (h : w.heap[b]? = some (.cells cs e' fz)) (hne : e' ≠ e) : w'.heap[b]? = some (.cells cs e' fz) := by
  rw [hg.block b (lt_of_block h) (fun x => ?_)]
  · exact h
  · obtain ⟨cs2, fz2, h2⟩ := hrow b x.symm
    rw [h] at h2
    cases h2
    exact hne rfl

theorem Row.other {w w' : World} {row : Option Nat} {e e' : TypeId} {B : Nat} {v : Value} {xs : List Value} (h : Row w B e' v xs) (hg : w.grownBy w' row) (hrow : ∀ g, row = some g → ∃ cs fz, w.heap[g]? = some (.cells cs e fz)) (hne : e' ≠ e) : Row w' B e' v xs := by
  obtain ⟨h1, h2⟩ := h
  refine ⟨h1, ?_⟩
  rcases h2 with h2 | ⟨g, cap, cur, hv, hg', hh, r⟩
  · exact Or.inl h2
  · exact Or.inr ⟨g, cap, cur, hv, hg', other_block hg hrow hh hne, r⟩

theorem Row.later {w w' : World} {e : TypeId} {B : Nat} {v : Value} {xs : List Value} (h : Row w B e v xs) (hb : Below w.heap.size w w') : Row w' B e v xs := by
  obtain ⟨h1, h2⟩ := h
  refine ⟨h1, ?_⟩
  rcases h2 with h2 | ⟨g, cap, cur, hv, hg', hh, r⟩
  · exact Or.inl h2
  · exact Or.inr ⟨g, cap, cur, hv, hg', by rw [hb.block g (lt_of_block hh)]; exact hh, r⟩

theorem Row.below {w w' : World} {e : TypeId} {B : Nat} {v : Value} {xs : List Value} (h : Row w B e v xs) (hg : w.grownBy w' v.ownBlock) (hB : B ≤ w.heap.size) : Below B w w' :=
  (Below.refl B w).grown hg hB (fun k hk => (World.ownsRow.lt h k hk).1)

theorem Row.shape {w : World} {e : TypeId} {B : Nat} {v : Value} {xs : List Value} (h : Row w B e v xs) (h0 : xs ≠ []) : ∃ g cap, v = .slice (some ⟨g, 0, none⟩) xs.length cap ∧ B ≤ g ∧ g < w.heap.size ∧ xs.length ≤ cap ∧ ∀ j, j < xs.length → w.cell? ⟨g, j, none⟩ = xs[j]? := by
  have h' := h
  rcases h.2 with ⟨_, h2⟩ | ⟨g, cap, cur, hv, hg, hh, hc, hcm, hcs, ht⟩
  · exact absurd (List.eq_nil_of_length_eq_zero h2) h0
  · unfold Row at h'
    rw [hv] at h'
    exact ⟨g, cap, hv, hg, lt_of_block hh, hc, fun j hj => h'.cellAt j (by omega)⟩

theorem Row.len {w : World} {e : TypeId} {B : Nat} {v : Value} {xs : List Value} (h : Row w B e v xs) : ∃ a cap, v = .slice a xs.length cap := by
  rcases h.2 with ⟨rfl, h2⟩ | ⟨g, cap, cur, rfl, _⟩
  · exact ⟨none, 0, by rw [h2]⟩
  · exact ⟨_, _, rfl⟩

theorem Row.pop {w : World} {B : Nat} {e : TypeId} {g n cap : Nat} {xs : List Value} (h : w.ownsRow B e 1 (.slice (some ⟨g, 0, none⟩) n cap) n xs) (m : Nat) (hm : m ≤ n) : w.ownsRow B e 1 (.slice (some ⟨g, 0, none⟩) m cap) m (xs.take m) := by
  rcases h with ⟨h1, h2 | ⟨g', cap', cur, hv, hbg, hg, hnc, hcm, hcs, htake⟩⟩
  · cases h2.1
  · cases hv
    refine ⟨by rw [List.length_take]; omega, Or.inr ⟨g, cap, cur, rfl, hbg, hg, by omega, hcm, hcs, ?_⟩⟩
    rw [← htake, List.take_take]
    congr 1
    omega

end Go.Proofs.Qxb6600249a
