/-
  DERIVED, BY AN AI AGENT. Seat b6600249a: VALUES IN MEMORY: 'NAt w G b s k': block b is a node whose text is s, of weight k, and nothing of it lies in a block of G. Rows of the call's own; append onto them.
-/
import Derived.Test.Qxb6600249aBase
import Derived.Test.Qxb6600249aShelf
import Derived.Laws.OwnMore
import Derived.Lib.AppendStr
import Derived.Laws.IdiomStrings
namespace Go.Proofs.Qxb6600249a
open Go.RowKit

/-- n pieces from the cell po of block pb on, each as N says. -/
def PieceAt (N : Nat → List UInt8 → Nat → Prop) (w : World) (G : Nat → Prop) (pb : Nat) : Nat → Nat → List UInt8 → Nat → Prop
  | 0, _, s, k => s = [] ∧ k = 0
  | n + 1, po, s, k => ∃ b s1 s2 k1 k2, ¬ G pb ∧ w.cell? ⟨pb, po, none⟩ = some (.pointer (some ⟨b, 0, none⟩)) ∧ N b s1 k1 ∧ PieceAt N w G pb n (po + 1) s2 k2 ∧ s = s1 ++ s2 ∧ k = k1 + k2 + 1

/-- A node of a depth below d. -/
def NAtD (w : World) (G : Nat → Prop) : Nat → Nat → List UInt8 → Nat → Prop
  | 0, _, _, _ => False
  | d + 1, b, s, k =>
    (∃ t c2 c3 c4, w.heap[b]? = some (.cells #[.string t, .slice none 0 0, c2, c3, c4] 55 (0, 0)) ∧ ¬ G b ∧ s = bl t ∧ k = 1) ∨
    (∃ t pb po n c sz c3 c4 k', w.heap[b]? = some (.cells #[.string t, .slice (some ⟨pb, po, none⟩) n c, .int .i64 (sz : Nat), c3, c4] 55 (0, 0)) ∧ ¬ G b ∧ n ≤ c ∧ sz ≤ 281474976710656 ∧ PieceAt (NAtD w G d) w G pb n po s k' ∧ k = k' + 2)

def NAt (w : World) (G : Nat → Prop) (b : Nat) (s : List UInt8) (k : Nat) : Prop := ∃ d, NAtD w G d b s k
def PAt (w : World) (G : Nat → Prop) (pb po n : Nat) (s : List UInt8) (k : Nat) : Prop := ∃ d, PieceAt (NAtD w G d) w G pb n po s k

theorem PieceAt.turn {N N' : Nat → List UInt8 → Nat → Prop} {w w' : World} {G G' : Nat → Prop} {pb : Nat} (hN : ∀ b s k, N b s k → N' b s k) (hG : ∀ po v, ¬ G pb → w.cell? ⟨pb, po, none⟩ = some v → ¬ G' pb ∧ w'.cell? ⟨pb, po, none⟩ = some v) :
    ∀ (n po : Nat) (s : List UInt8) (k : Nat), PieceAt N w G pb n po s k → PieceAt N' w' G' pb n po s k
  | 0, _, _, _, h => h
  | n + 1, po, s, k, h => by
    obtain ⟨b, s1, s2, k1, k2, h1, h2, h3, h4, h5, h6⟩ := h
    exact ⟨b, s1, s2, k1, k2, (hG po _ h1 h2).1, (hG po _ h1 h2).2, hN _ _ _ h3, PieceAt.turn hN hG n (po + 1) s2 k2 h4, h5, h6⟩

theorem NAtD.up {w : World} {G : Nat → Prop} : ∀ (d b : Nat) (s : List UInt8) (k : Nat), NAtD w G d b s k → NAtD w G (d + 1) b s k
  | 0, _, _, _, h => h.elim
  | d + 1, b, s, k, h => by
    rcases h with h | ⟨t, pb, po, n, c, sz, c3, c4, k', h1, h2, h3, h4, h5, h6⟩
    · exact Or.inl h
    · exact Or.inr ⟨t, pb, po, n, c, sz, c3, c4, k', h1, h2, h3, h4, PieceAt.turn (NAtD.up d) (fun _ _ a b => ⟨a, b⟩) _ _ _ _ h5, h6⟩

theorem NAtD.le {w : World} {G : Nat → Prop} {d d' b : Nat} {s : List UInt8} {k : Nat} (hd : d ≤ d') (h : NAtD w G d b s k) : NAtD w G d' b s k := by
  induction hd with
  | refl => exact h
  | step _ ih => exact NAtD.up _ _ _ _ ih

theorem NAt.leaf {w : World} {G : Nat → Prop} (b : Nat) (t : ByteArray) (c2 c3 c4 : Value) (h : w.heap[b]? = some (.cells #[.string t, .slice none 0 0, c2, c3, c4] 55 (0, 0))) (hg : ¬ G b) : NAt w G b (bl t) 1 :=
  ⟨1, Or.inl ⟨t, c2, c3, c4, h, hg, rfl, rfl⟩⟩
theorem NAt.node {w : World} {G : Nat → Prop} (b : Nat) (t : ByteArray) (pb po n c sz : Nat) (c3 c4 : Value) (s : List UInt8) (k : Nat)
    (h : w.heap[b]? = some (.cells #[.string t, .slice (some ⟨pb, po, none⟩) n c, .int .i64 sz, c3, c4] 55 (0, 0))) (hg : ¬ G b) (hc : n ≤ c) (hz : sz ≤ 281474976710656) (hp : PAt w G pb po n s k) : NAt w G b s (k + 2) := by
  obtain ⟨d, hp⟩ := hp
  exact ⟨d + 1, Or.inr ⟨t, pb, po, n, c, sz, c3, c4, k, h, hg, hc, hz, hp, rfl⟩⟩
theorem PAt.nil {w : World} {G : Nat → Prop} (pb po : Nat) : PAt w G pb po 0 [] 0 := ⟨0, rfl, rfl⟩
theorem PAt.cons {w : World} {G : Nat → Prop} (pb po n b : Nat) (s1 s2 : List UInt8) (k1 k2 : Nat) (hg : ¬ G pb) (hc : w.cell? ⟨pb, po, none⟩ = some (.pointer (some ⟨b, 0, none⟩))) (hn : NAt w G b s1 k1) (hp : PAt w G pb (po + 1) n s2 k2) : PAt w G pb po (n + 1) (s1 ++ s2) (k1 + k2 + 1) := by
  obtain ⟨d1, hn⟩ := hn
  obtain ⟨d2, hp⟩ := hp
  refine ⟨max d1 d2, b, s1, s2, k1, k2, hg, hc, hn.le (Nat.le_max_left _ _), ?_, rfl, rfl⟩
  exact PieceAt.turn (fun _ _ _ h => NAtD.le (Nat.le_max_right _ _) h) (fun _ _ a b => ⟨a, b⟩) _ _ _ _ hp

theorem NAt.elim {w : World} {G : Nat → Prop} {b : Nat} {s : List UInt8} {k : Nat} (h : NAt w G b s k) :
    (∃ t c2 c3 c4, w.heap[b]? = some (.cells #[.string t, .slice none 0 0, c2, c3, c4] 55 (0, 0)) ∧ ¬ G b ∧ s = bl t ∧ k = 1) ∨
    (∃ t pb po n c sz c3 c4 k', w.heap[b]? = some (.cells #[.string t, .slice (some ⟨pb, po, none⟩) n c, .int .i64 (sz : Nat), c3, c4] 55 (0, 0)) ∧ ¬ G b ∧ n ≤ c ∧ sz ≤ 281474976710656 ∧ PAt w G pb po n s k' ∧ k = k' + 2) := by
  obtain ⟨d, h⟩ := h
  cases d with
  | zero => exact h.elim
  | succ d =>
    rcases h with h | ⟨t, pb, po, n, c, sz, c3, c4, k', h1, h2, h3, h4, h5, h6⟩
    · exact Or.inl h
    · exact Or.inr ⟨t, pb, po, n, c, sz, c3, c4, k', h1, h2, h3, h4, ⟨d, h5⟩, h6⟩

theorem PAt.zero {w : World} {G : Nat → Prop} {pb po n : Nat} {s : List UInt8} {k : Nat} (h : PAt w G pb po n s k) (h0 : n = 0) : s = [] ∧ k = 0 := by
  subst h0
  obtain ⟨d, h⟩ := h
  exact h

theorem PAt.succ {w : World} {G : Nat → Prop} {pb po n q : Nat} {s : List UInt8} {k : Nat} (h : PAt w G pb po n s k) (h0 : n = q + 1) :
    ∃ b s1 s2 k1 k2, w.cell? ⟨pb, po, none⟩ = some (.pointer (some ⟨b, 0, none⟩)) ∧ NAt w G b s1 k1 ∧ PAt w G pb (po + 1) q s2 k2 ∧ s = s1 ++ s2 ∧ k = k1 + k2 + 1 := by
  subst h0
  obtain ⟨d, b, s1, s2, k1, k2, _, h2, h3, h4, h5, h6⟩ := h
  exact ⟨b, s1, s2, k1, k2, h2, ⟨d, h3⟩, ⟨d, h4⟩, h5, h6⟩

theorem lt_of_block {w : World} {b : Nat} {o : Obj} (h : w.heap[b]? = some o) : b < w.heap.size := (Array.getElem?_eq_some_iff.1 h).1

/-- Memory that has kept all blocks but those of G. -/
def Keeps (G : Nat → Prop) (w w' : World) : Prop := ∀ x, x < w.heap.size → ¬ G x → w'.heap[x]? = w.heap[x]?

theorem piece_keep {w w' : World} {G G' : Nat → Prop} (hk : Keeps G w w') (hg : ∀ x, G' x → G x ∨ w.heap.size ≤ x) (pb po : Nat) (v : Value) (h : ¬ G pb) (hc : w.cell? ⟨pb, po, none⟩ = some v) : ¬ G' pb ∧ w'.cell? ⟨pb, po, none⟩ = some v := by
  have hlt : pb < w.heap.size := World.block_lt_of_cell? w ⟨pb, po, none⟩ hc
  refine ⟨fun e => ?_, by rw [World.cell?_of_block (w := w) (hk pb hlt h)]; exact hc⟩
  rcases hg pb e with h1 | h1
  · exact h h1
  · omega

theorem NAtD.keep {w w' : World} {G G' : Nat → Prop} (hk : Keeps G w w') (hg : ∀ x, G' x → G x ∨ w.heap.size ≤ x) : ∀ (d b : Nat) (s : List UInt8) (k : Nat), NAtD w G d b s k → NAtD w' G' d b s k
  | 0, _, _, _, h => h.elim
  | d + 1, b, s, k, h => by
    have hno : ∀ o, w.heap[b]? = some o → ¬ G b → ¬ G' b := fun o h hb e => by
      rcases hg b e with h1 | h1
      · exact hb h1
      · have := lt_of_block h; omega
    rcases h with ⟨t, c2, c3, c4, h1, h2, h3⟩ | ⟨t, pb, po, n, c, sz, c3, c4, k', h1, h2, h3, h4, h5, h6⟩
    · exact Or.inl ⟨t, c2, c3, c4, by rw [hk b (lt_of_block h1) h2]; exact h1, hno _ h1 h2, h3⟩
    · exact Or.inr ⟨t, pb, po, n, c, sz, c3, c4, k', by rw [hk b (lt_of_block h1) h2]; exact h1, hno _ h1 h2, h3, h4, PieceAt.turn (NAtD.keep hk hg d) (fun po v => piece_keep hk hg pb po v) _ _ _ _ h5, h6⟩

theorem NAt.keep {w w' : World} {G G' : Nat → Prop} (hk : Keeps G w w') (hg : ∀ x, G' x → G x ∨ w.heap.size ≤ x) {b : Nat} {s : List UInt8} {k : Nat} (h : NAt w G b s k) : NAt w' G' b s k := by
  obtain ⟨d, h⟩ := h
  exact ⟨d, NAtD.keep hk hg d b s k h⟩
theorem PAt.keep {w w' : World} {G G' : Nat → Prop} (hk : Keeps G w w') (hg : ∀ x, G' x → G x ∨ w.heap.size ≤ x) {pb po n : Nat} {s : List UInt8} {k : Nat} (h : PAt w G pb po n s k) : PAt w' G' pb po n s k := by
  obtain ⟨d, h⟩ := h
  exact ⟨d, PieceAt.turn (NAtD.keep hk hg d) (fun po v => piece_keep hk hg pb po v) _ _ _ _ h⟩

/-- No block is left out. -/
def noG : Nat → Prop := fun _ => False

theorem Keeps.of_below {w w' : World} (h : Below w.heap.size w w') (G : Nat → Prop) : Keeps G w w' := fun x hx _ => h.block x hx
theorem NAt.later {w w' : World} {G : Nat → Prop} {b : Nat} {s : List UInt8} {k : Nat} (h : NAt w G b s k) (hb : Below w.heap.size w w') : NAt w' G b s k := h.keep (Keeps.of_below hb G) (fun _ e => Or.inl e)
theorem PAt.later {w w' : World} {G : Nat → Prop} {pb po n : Nat} {s : List UInt8} {k : Nat} (h : PAt w G pb po n s k) (hb : Below w.heap.size w w') : PAt w' G pb po n s k := h.keep (Keeps.of_below hb G) (fun _ e => Or.inl e)
theorem NAt.free {w : World} {G : Nat → Prop} {b : Nat} {s : List UInt8} {k : Nat} (h : NAt w G b s k) : NAt w noG b s k := h.keep (fun _ _ _ => rfl) (fun _ e => e.elim)
theorem NAt.lt {w : World} {G : Nat → Prop} {b : Nat} {s : List UInt8} {k : Nat} (h : NAt w G b s k) : b < w.heap.size := by
  rcases h.elim with ⟨t, c2, c3, c4, h, _⟩ | ⟨t, pb, po, n, c, sz, c3, c4, k', h, _⟩
  · exact lt_of_block h
  · exact lt_of_block h

/-- A stack's entry. -/
structure E where
  a : Option Addr
  n : Nat
  c : Nat
  s : List UInt8
  k : Nat
def E.val (e : E) : Value := .slice e.a e.n e.c
def E.ok (w : World) (e : E) : Prop := (e.n = 0 ∧ e.s = [] ∧ e.k = 0 ∨ ∃ pb po, e.a = some ⟨pb, po, none⟩ ∧ PAt w noG pb po e.n e.s e.k) ∧ e.n ≤ e.c
def rest (R : List E) : List UInt8 := (R.map E.s).flatten
def load (R : List E) : Nat := (R.map fun e => e.k + 1).sum

theorem Try.info32 : ∃ i z, Try.prog.info? 32 = some i ∧ i.zero = some z ∧ i.size = 1 ∧ i.bytes ≤ 24 ∧ z.cells.size = 1 := by
  have h0 : (Try.prog.info? 32).map (fun i => (i.zero.map (fun z => z.cells.size), i.size, i.bytes)) = some (some 1, 1, 8) := by kernel_rfl
  obtain ⟨i, hi, h⟩ := Option.map_eq_some_iff.1 h0
  simp only [Prod.mk.injEq] at h
  obtain ⟨z, hz, hz2⟩ := Option.map_eq_some_iff.1 h.1
  exact ⟨i, z, hi, hz, h.2.1, by omega, hz2⟩
theorem Try.info28 : ∃ i z, Try.prog.info? 28 = some i ∧ i.zero = some z ∧ i.size = 1 ∧ i.bytes ≤ 24 ∧ z.cells.size = 1 := by
  have h0 : (Try.prog.info? 28).map (fun i => (i.zero.map (fun z => z.cells.size), i.size, i.bytes)) = some (some 1, 1, 24) := by kernel_rfl
  obtain ⟨i, hi, h⟩ := Option.map_eq_some_iff.1 h0
  simp only [Prod.mk.injEq] at h
  obtain ⟨z, hz, hz2⟩ := Option.map_eq_some_iff.1 h.1
  exact ⟨i, z, hi, hz, h.2.1, by omega, hz2⟩
theorem Try.info3 : ∃ i z, Try.prog.info? 3 = some i ∧ i.zero = some z ∧ i.size = 1 ∧ i.bytes ≤ 24 ∧ z.cells.size = 1 := by
  have h0 : (Try.prog.info? 3).map (fun i => (i.zero.map (fun z => z.cells.size), i.size, i.bytes)) = some (some 1, 1, 8) := by kernel_rfl
  obtain ⟨i, hi, h⟩ := Option.map_eq_some_iff.1 h0
  simp only [Prod.mk.injEq] at h
  obtain ⟨z, hz, hz2⟩ := Option.map_eq_some_iff.1 h.1
  exact ⟨i, z, hi, hz, h.2.1, by omega, hz2⟩

/-- A row of the call's own, one cell an element. -/
abbrev Row (w : World) (B : Nat) (e : TypeId) (v : Value) (xs : List Value) : Prop := w.ownsRow B e 1 v xs.length xs

section
variable {w : World} {ops : Array Oper} {rest : List Oper} {o : Oper} {a : Act} {Q : Exit → Act → World → Prop}

theorem run_app_row (w : World) (B : Nat) (t e ty : TypeId) (ht : Try.prog.underlying t = some (.slice e)) (he : ∃ i z, Try.prog.info? e = some i ∧ i.zero = some z ∧ i.size = 1 ∧ i.bytes ≤ 24 ∧ z.cells.size = 1)
    (v : Value) (xs : List Value) (hown : Row w B e v xs) (ad : Addr) (c : Nat) (x0 : Value) (h0 : w.cell? ad = some x0) (ho : x0.oneCell' = true) (hn : xs.length ≤ 1073741824) (hB : B ≤ w.heap.size) :
    ∃ v' w', (Builtin.append_ #[t, t] ty #[v, .slice (some ad) 1 c]).run Try.prog w = .ok v' w' ∧ Row w' B e v' (xs ++ [x0]) ∧ w.grownBy w' v.ownBlock ∧
      (∀ g, v'.ownBlock = some g → v.ownBlock = some g ∨ g = w.heap.size) := by
  obtain ⟨i, z, hi, hz, hsz, hby, hzs⟩ := he
  have hnews : ∀ j u, ([x0] : List Value)[j]? = some u → w.cell? (ad.add j) = some u := by
    intro j u hj
    match j with
    | 0 => simp at hj; subst hj; simpa [Addr.add] using h0
    | j + 1 => simp at hj
  have hone : ∀ u ∈ ([x0] : List Value), u.oneCell' = true := by
    intro u hu
    simp at hu
    subst hu; exact ho
  have hbb : (xs.length + 1) * i.bytes ≤ 140737488355328 := Nat.le_trans (Nat.mul_le_mul_left _ hby) (by omega)
  obtain ⟨v', w', hr, k1, k2, _⟩ := run_append_own (P := Try.prog) w B t ty e i z 1 i.bytes ht hi hz hsz rfl hzs (by omega) v xs.length xs hown ad 1 c [x0] rfl hnews hone (by unfold maxLen; omega) hbb hB
  have hbb1 : 1 * i.bytes ≤ 281474976710656 := by omega
  refine ⟨v', w', hr, by show w'.ownsRow B e 1 v' (xs ++ [x0]).length (xs ++ [x0]); simpa using k1, k2, ?_⟩
  rcases hown.2 with ⟨rfl, hx0⟩ | ⟨g, cap, cur, rfl, hbg, hg, hnc, hcm, hcs, htake⟩
  · have hr2 := run_append_nil (P := Try.prog) w t ty e i z ht hi hz ad 1 c [x0] (by rw [hsz]; rfl) hnews (by omega) (by omega) (by omega)
    rw [hr] at hr2
    simp only [Result.ok.injEq] at hr2
    rw [hr2.1]
    intro g hg
    right
    simp [Value.ownBlock] at hg
    exact hg.symm
  · by_cases hroom : xs.length + 1 ≤ cap
    · have hr2 := run_append_room (P := Try.prog) w t ty e i ht hi g xs.length cap cur hg ad 1 c [x0] (by rw [hsz]; rfl) hnews hone hroom (by rw [hsz, hcs]; simp; omega)
      rw [hr] at hr2
      simp only [Result.ok.injEq] at hr2
      rw [hr2.1]
      intro g' hg'
      left
      simpa [Value.ownBlock] using hg'
    · have hr2 := run_append_grow (P := Try.prog) w t ty e i z ht hi hz ⟨g, 0, none⟩ xs.length cap xs (by rw [hsz]; omega) (hown.cells (g := g) rfl) ad 1 c [x0] (by rw [hsz]; rfl) hnews (by omega) (by simp only [maxLen] at hcm; omega) (growslice_fits (by omega) hbb)
      rw [hr] at hr2
      simp only [Result.ok.injEq] at hr2
      rw [hr2.1]
      intro g' hg'
      right
      simp [Value.ownBlock] at hg'
      exact hg'.symm

theorem wp_app_row (hgd : o.guard = none) (sl x : Operand) (t e : TypeId) (ho : o.op = .call { callee := .builtin .append, args := #[sl, x], argTypes := #[t, t] })
    (ht : Try.prog.underlying t = some (.slice e)) (he : ∃ i z, Try.prog.info? e = some i ∧ i.zero = some z ∧ i.size = 1 ∧ i.bytes ≤ 24 ∧ z.cells.size = 1)
    (B : Nat) (v : Value) (xs : List Value) (hs : a.eval sl = v) (hown : Row w B e v xs) (ad : Addr) (c : Nat) (x0 : Value) (hx : a.eval x = .slice (some ad) 1 c) (h0 : w.cell? ad = some x0) (hone : x0.oneCell' = true) (hn : xs.length ≤ 1073741824) (hB : B ≤ w.heap.size)
    (h : ∀ v' w', Row w' B e v' (xs ++ [x0]) → w.grownBy w' v.ownBlock → (∀ g, v'.ownBlock = some g → v.ownBlock = some g ∨ g = w.heap.size) → wpList Try.prog ops Q rest (a.put o.dst v') w') : wpList Try.prog ops Q (o :: rest) a w := by
  refine wpList_plain hgd fun K hK => ?_
  obtain ⟨v', w', hr, h2, h3, h4⟩ := run_app_row w B t e o.type ht he v xs hown ad c x0 h0 hone hn hB
  unfold Oper.wp execOp
  simp only [ho, resolve, invoke, builtin, Sem.run_bind, Sem.run_pure, Result.andThen_ok, List.map_toArray, List.map_cons, List.map_nil, hs, hx, hr]
  exact hK _ _ (h v' w' h2 h3 h4)
end

theorem Row.block {w : World} {B : Nat} {e : TypeId} {v : Value} {xs : List Value} (h : Row w B e v xs) : ∀ g, v.ownBlock = some g → ∃ cs fz, w.heap[g]? = some (.cells cs e fz) := by
  intro g hv
  rcases h.2 with ⟨rfl, _⟩ | ⟨g', cap, cur, rfl, _, hh, _⟩
  · cases hv
  · cases hv; exact ⟨_, _, hh⟩

/-- A row of e's turns: a block of another kind is as it was. -/
theorem other_block {w w' : World} {row : Option Nat} {e : TypeId} (hg : w.grownBy w' row) (hrow : ∀ g, row = some g → ∃ cs fz, w.heap[g]? = some (.cells cs e fz)) {b : Nat} {cs : Array Value} {e' : TypeId} {fz : Nat × Nat} (h : w.heap[b]? = some (.cells cs e' fz)) (hne : e' ≠ e) : w'.heap[b]? = some (.cells cs e' fz) := by
  rw [hg.block b (lt_of_block h) (fun x => ?_)]
  · exact h
  · obtain ⟨cs2, fz2, h2⟩ := hrow b x.symm
    rw [h] at h2
    cases h2
    exact hne rfl

theorem Row.other {w w' : World} {row : Option Nat} {e e' : TypeId} {B : Nat} {v : Value} {xs : List Value} (h : Row w B e' v xs) (hg : w.grownBy w' row) (hrow : ∀ g, row = some g → ∃ cs fz, w.heap[g]? = some (.cells cs e fz)) (hne : e' ≠ e) : Row w' B e' v xs := by
  obtain ⟨h1, h2⟩ := h
  refine ⟨h1, ?_⟩
  rcases h2 with h2 | ⟨g, cap, cur, hv, hg', hh, r⟩
  · exact Or.inl h2
  · exact Or.inr ⟨g, cap, cur, hv, hg', other_block hg hrow hh hne, r⟩

theorem Row.later {w w' : World} {e : TypeId} {B : Nat} {v : Value} {xs : List Value} (h : Row w B e v xs) (hb : Below w.heap.size w w') : Row w' B e v xs := by
  obtain ⟨h1, h2⟩ := h
  refine ⟨h1, ?_⟩
  rcases h2 with h2 | ⟨g, cap, cur, hv, hg', hh, r⟩
  · exact Or.inl h2
  · exact Or.inr ⟨g, cap, cur, hv, hg', by rw [hb.block g (lt_of_block hh)]; exact hh, r⟩

theorem Row.below {w w' : World} {e : TypeId} {B : Nat} {v : Value} {xs : List Value} (h : Row w B e v xs) (hg : w.grownBy w' v.ownBlock) (hB : B ≤ w.heap.size) : Below B w w' :=
  (Below.refl B w).grown hg hB (fun k hk => (World.ownsRow.lt h k hk).1)

theorem Row.shape {w : World} {e : TypeId} {B : Nat} {v : Value} {xs : List Value} (h : Row w B e v xs) (h0 : xs ≠ []) : ∃ g cap, v = .slice (some ⟨g, 0, none⟩) xs.length cap ∧ B ≤ g ∧ g < w.heap.size ∧ xs.length ≤ cap ∧ ∀ j, j < xs.length → w.cell? ⟨g, j, none⟩ = xs[j]? := by
  have h' := h
  rcases h.2 with ⟨_, h2⟩ | ⟨g, cap, cur, hv, hg, hh, hc, hcm, hcs, ht⟩
  · exact absurd (List.eq_nil_of_length_eq_zero h2) h0
  · unfold Row at h'
    rw [hv] at h'
    exact ⟨g, cap, hv, hg, lt_of_block hh, hc, fun j hj => h'.cellAt j (by omega)⟩

theorem Row.len {w : World} {e : TypeId} {B : Nat} {v : Value} {xs : List Value} (h : Row w B e v xs) : ∃ a cap, v = .slice a xs.length cap := by
  rcases h.2 with ⟨rfl, h2⟩ | ⟨g, cap, cur, rfl, _⟩
  · exact ⟨none, 0, by rw [h2]⟩
  · exact ⟨_, _, rfl⟩

theorem Row.pop {w : World} {B : Nat} {e : TypeId} {g n cap : Nat} {xs : List Value} (h : w.ownsRow B e 1 (.slice (some ⟨g, 0, none⟩) n cap) n xs) (m : Nat) (hm : m ≤ n) : w.ownsRow B e 1 (.slice (some ⟨g, 0, none⟩) m cap) m (xs.take m) := by
  rcases h with ⟨h1, h2 | ⟨g', cap', cur, hv, hbg, hg, hnc, hcm, hcs, htake⟩⟩
  · cases h2.1
  · cases hv
    refine ⟨by rw [List.length_take]; omega, Or.inr ⟨g, cap, cur, rfl, hbg, hg, by omega, hcm, hcs, ?_⟩⟩
    rw [← htake, List.take_take]
    congr 1
    omega

end Go.Proofs.Qxb6600249a
