/-
  DERIVED, BY AN AI AGENT. Seat b6001106a: THE TREE OF TEMPLATES IN MEMORY: 'Inv': each node of the plain tree lies in a block of its own; each block is owned by at most one path. Steps on memory that keep it.
-/
import Derived.Test.Qxb6001106aMaps
import Derived.Test.Qxb6001106aTrie
import Derived.Deep.Heap
namespace Go.Proofs.Qxb6001106a
open Go.RowKit
open Go.ChangeMaps (setBlock)

/-- Who owns a block: the node at a path; as what: the node itself (0), its map of literals (1), its map of keys (2), its row of mixed children (3). -/
abbrev Own := Nat → Option (List Key × Nat)

/-- A path that no segment has: what it owns is not the tree's, and is kept. -/
def fakeP : List Key := [(9, [])]

def ptrO (o : Option Nat) : Value := .pointer (o.map fun b => ⟨b, 0, none⟩)

def NodeAt (w : World) (b : Nat) (c0 c1 c2 c3 c4 : Value) : Prop := w.heap[b]? = some (.cells #[c0, c1, c2, c3, c4] 57 (0, 0))

def MapOK (w : World) (own : Own) (p : List Key × Nat) (v : Value) (g : List UInt8 → Option Nat) : Prop :=
  (v = .map none ∧ ∀ t, g t = none) ∨
  ∃ m es clk, v = .map (some m) ∧ own m = some p ∧ w.heap[m]? = some (.map es clk) ∧ AllStr es.toList ∧ ∀ t : ByteArray, look t es.toList = (g (bl t)).map fun b => .pointer (some ⟨b, 0, none⟩)

/-- A segment's texts, in memory that no node owns. -/
def SegOK (w : World) (own : Own) (a : Option Addr) (c : Nat) (s : List ByteArray) : Prop :=
  StrsAt w a s ∧ s.length ≤ c ∧ Sz s ∧ ∀ ad, a = some ad → own ad.block = none

def MixOK (w : World) (own : Own) (p : List Key × Nat) (v : Value) (f : Key → Option Nat) (L : List (List ByteArray)) : Prop :=
  ∃ xs, w.ownsRow 0 66 2 v L.length xs ∧ (∀ g, v.ownBlock = some g → own g = some p) ∧
    ∀ j s, L[j]? = some s → ∃ a c b, xs[2 * j]? = some (.slice a s.length c) ∧ xs[2 * j + 1]? = some (.pointer (some ⟨b, 0, none⟩)) ∧ f (kindOf s) = some b ∧ SegOK w own a c s ∧ 2 ≤ s.length

def NodeOK (w : World) (own : Own) (p : List Key) (b : Nat) (f : Key → Option Nat) (i : NI) : Prop :=
  ∃ c0 c1 c2, NodeAt w b c0 c1 c2 (ptrO (f (0, []))) (ptrO i.route) ∧ own b = some (p, 0) ∧ MapOK w own (p, 1) c0 (fun t => f (1, t)) ∧ MapOK w own (p, 2) c2 (fun t => f (2, t)) ∧ MixOK w own (p, 3) c1 f i.mixed

def childBlk (B : List Key → Nat) (N : Trie) (q : List Key) : Option Nat := (N q).map fun _ => B q

structure Inv (B0 : Nat) (w : World) (own : Own) (B : List Key → Nat) (N : Trie) (cnt : Nat) : Prop where
  node : ∀ p i, N p = some i → NodeOK w own p (B p) (fun k => childBlk B N (p ++ [k])) i
  count : ∀ p i, N p = some i → i.mixed.length ≤ cnt
  lt : ∀ b p, own b = some p → b < w.heap.size
  ge : ∀ b p, own b = some p → B0 ≤ b
  closed : ∀ q k, N (q ++ [k]) ≠ none → N q ≠ none
  nofake : N fakeP = none

/-- What is not the tree's own is as it was. -/
structure Out (w : World) (own : Own) (w' : World) (own' : Own) : Prop where
  os : w'.os = w.os
  tape : w'.tape = w.tape
  output : w'.output = w.output
  size : w.heap.size ≤ w'.heap.size
  block : ∀ x, x < w.heap.size → own x = none → w'.heap[x]? = w.heap[x]?
  fake : ∀ x, x < w.heap.size → own x = some (fakeP, 9) → w'.heap[x]? = w.heap[x]? ∧ own' x = some (fakeP, 9)
  own : ∀ x, x < w.heap.size → own x = none → own' x = none

theorem Out.refl (w : World) (own : Own) : Out w own w own := ⟨rfl, rfl, rfl, Nat.le_refl _, fun _ _ _ => rfl, fun _ _ h => ⟨rfl, h⟩, fun _ _ h => h⟩

theorem Out.trans {w w1 w2 : World} {o o1 o2 : Own} (h : Out w o w1 o1) (k : Out w1 o1 w2 o2) : Out w o w2 o2 :=
  ⟨k.os.trans h.os, k.tape.trans h.tape, k.output.trans h.output, Nat.le_trans h.size k.size,
    fun x hx ho => (k.block x (Nat.lt_of_lt_of_le hx h.size) (h.own x hx ho)).trans (h.block x hx ho),
    fun x hx ho => ⟨(k.fake x (Nat.lt_of_lt_of_le hx h.size) (h.fake x hx ho).2).1.trans (h.fake x hx ho).1, (k.fake x (Nat.lt_of_lt_of_le hx h.size) (h.fake x hx ho).2).2⟩,
    fun x hx ho => k.own x (Nat.lt_of_lt_of_le hx h.size) (h.own x hx ho)⟩

theorem Out.of_below {w w' : World} {own : Own} (h : Below w.heap.size w w') : Out w own w' own :=
  ⟨h.os, h.tape, h.output, h.size, fun x hx _ => h.block x hx, fun x hx h' => ⟨h.block x hx, h'⟩, fun _ _ h => h⟩

theorem Out.below {B0 : Nat} {w w' : World} {own own' : Own} {B : List Key → Nat} {N : Trie} {cnt : Nat} (h : Out w own w' own') (hi : Inv B0 w own B N cnt) (hB : B0 ≤ w.heap.size) : Below B0 w w' :=
  ⟨h.os, h.tape, h.output, h.size, fun x hx => h.block x (Nat.lt_of_lt_of_le hx hB) (by
    cases e : own x with
    | none => rfl
    | some p => have := hi.ge x p e; omega)⟩

theorem StrsAt.out {w w' : World} {own own' : Own} {a : Option Addr} {ss : List ByteArray} (h : StrsAt w a ss) (ho : ∀ ad, a = some ad → own ad.block = none) (k : Out w own w' own') : StrsAt w' a ss := by
  intro i hi
  obtain ⟨b, o, e, hlt, hcell⟩ := h i hi
  exact ⟨b, o, e, Nat.lt_of_lt_of_le hlt k.size, by rw [World.cell?_of_block (w := w) (k.block b hlt (ho _ e))]; exact hcell⟩

theorem SegOK.out {w w' : World} {own own' : Own} {a : Option Addr} {c : Nat} {s : List ByteArray} (h : SegOK w own a c s) (h1 : 1 ≤ s.length) (k : Out w own w' own') : SegOK w' own' a c s :=
  ⟨h.1.out h.2.2.2 k, h.2.1, h.2.2.1, fun ad e => by
    obtain ⟨b, o, e', hlt, _⟩ := h.1 0 h1
    have := h.2.2.2 ad e
    rw [e] at e'; cases e'
    exact k.own _ hlt this⟩

theorem MapOK.frame {w w' : World} {own own' : Own} {p : List Key × Nat} {v : Value} {g : List UInt8 → Option Nat} (h : MapOK w own p v g)
    (hw : ∀ x, own x = some p → w'.heap[x]? = w.heap[x]?) (ho : ∀ x, own x = some p → own' x = some p) : MapOK w' own' p v g := by
  rcases h with h | ⟨m, es, clk, h1, h2, h3, h4, h5⟩
  · exact Or.inl h
  · exact Or.inr ⟨m, es, clk, h1, ho m h2, by rw [hw m h2]; exact h3, h4, h5⟩

theorem ownsRow_frame {w w' : World} {e : TypeId} {size : Nat} {v : Value} {n : Nat} {xs : List Value} (h : w.ownsRow 0 e size v n xs) (hw : ∀ g, v.ownBlock = some g → w'.heap[g]? = w.heap[g]?) : w'.ownsRow 0 e size v n xs := by
  obtain ⟨h1, h2⟩ := h
  refine ⟨h1, ?_⟩
  rcases h2 with h2 | ⟨g, cap, cur, hv, hg, hh, r⟩
  · exact Or.inl h2
  · exact Or.inr ⟨g, cap, cur, hv, hg, by rw [hw g (by rw [hv]; rfl)]; exact hh, r⟩

theorem MixOK.frame {w w' : World} {own own' : Own} {p : List Key × Nat} {v : Value} {f f' : Key → Option Nat} {L : List (List ByteArray)} (h : MixOK w own p v f L)
    (hw : ∀ x, own x = some p → w'.heap[x]? = w.heap[x]?) (ho : ∀ x, own x = some p → own' x = some p) (k : Out w own w' own') (hf : ∀ s ∈ L, f' (kindOf s) = f (kindOf s)) : MixOK w' own' p v f' L := by
  obtain ⟨xs, h1, h2, h3⟩ := h
  refine ⟨xs, ownsRow_frame h1 (fun g hg => hw g (h2 g hg)), fun g hg => ho g (h2 g hg), fun j s hj => ?_⟩
  obtain ⟨a, c, b, g1, g2, g3, g4, g5⟩ := h3 j s hj
  exact ⟨a, c, b, g1, g2, by rw [hf s (List.mem_of_getElem? hj)]; exact g3, g4.out (by omega) k, g5⟩

theorem NodeOK.frame {w w' : World} {own own' : Own} {p : List Key} {b : Nat} {f : Key → Option Nat} {i : NI} (h : NodeOK w own p b f i)
    (hw : ∀ x t, own x = some (p, t) → w'.heap[x]? = w.heap[x]?) (ho : ∀ x t, own x = some (p, t) → own' x = some (p, t)) (k : Out w own w' own') : NodeOK w' own' p b f i := by
  obtain ⟨c0, c1, c2, h1, h2, h3, h4, h5⟩ := h
  exact ⟨c0, c1, c2, by unfold NodeAt; rw [hw b 0 h2]; exact h1, ho b 0 h2, h3.frame (fun x => hw x 1) (fun x => ho x 1), h4.frame (fun x => hw x 2) (fun x => ho x 2), h5.frame (fun x => hw x 3) (fun x => ho x 3) k (fun _ _ => rfl)⟩

/-- Memory has only grown. -/
theorem Inv.later {B0 : Nat} {w w' : World} {own : Own} {B : List Key → Nat} {N : Trie} {cnt : Nat} (h : Inv B0 w own B N cnt) (hb : Below w.heap.size w w') : Inv B0 w' own B N cnt :=
  ⟨fun p i hp => (h.node p i hp).frame (fun x _ hx => hb.block x (h.lt x _ hx)) (fun _ _ hx => hx) (Out.of_below hb), h.count,
    fun b p hbp => Nat.lt_of_lt_of_le (h.lt b p hbp) hb.size, h.ge, h.closed, h.nofake⟩

theorem Inv.ne_fake {B0 : Nat} {w : World} {own : Own} {B : List Key → Nat} {N : Trie} {cnt : Nat} {p : List Key} {i : NI} (h : Inv B0 w own B N cnt) (hp : N p = some i) : p ≠ fakeP := fun e => by
  rw [e, h.nofake] at hp; cases hp

/-- One node's own blocks are written; nothing else turns. -/
theorem Inv.touch {B0 : Nat} {w w' : World} {own own' : Own} {B : List Key → Nat} {N : Trie} {cnt cnt' : Nat} (h : Inv B0 w own B N cnt) {p : List Key} {i i' : NI} (hp : N p = some i) (hc : cnt ≤ cnt') (hc' : i'.mixed.length ≤ cnt')
    (k : Out w own w' own') (hw : ∀ x q t, own x = some (q, t) → q ≠ p → w'.heap[x]? = w.heap[x]?) (ho : ∀ x q, own x = some q → own' x = some q) (hn : ∀ x q, own' x = some q → own x = some q ∨ (w.heap.size ≤ x ∧ x < w'.heap.size)) (hB : B0 ≤ w.heap.size)
    (hnode : NodeOK w' own' p (B p) (fun k => childBlk B N (p ++ [k])) i') : Inv B0 w' own' B (fun q => if q = p then some i' else N q) cnt' := by
  have hcb : ∀ q, childBlk B (fun q => if q = p then some i' else N q) q = childBlk B N q := by
    intro q
    unfold childBlk
    by_cases e : q = p
    · subst e; simp [hp]
    · simp [e]
  refine ⟨?_, ?_, ?_, ?_, ?_, ?_⟩
  · intro q j hq
    have hf : (fun k => childBlk B (fun q => if q = p then some i' else N q) (q ++ [k])) = fun k => childBlk B N (q ++ [k]) := funext fun k => hcb _
    rw [hf]
    by_cases e : q = p
    · subst e
      simp at hq
      subst hq
      exact hnode
    · simp [e] at hq
      exact (h.node q j hq).frame (fun x t hx => hw x q t hx e) (fun x t hx => ho x _ hx) k
  · intro q j hq
    by_cases e : q = p
    · simp [e] at hq; subst hq; exact hc'
    · simp [e] at hq; exact Nat.le_trans (h.count q j hq) hc
  · intro x q hx
    rcases hn x q hx with h1 | ⟨_, h3⟩
    · exact Nat.lt_of_lt_of_le (h.lt x q h1) k.size
    · exact h3
  · intro x q hx
    rcases hn x q hx with h1 | ⟨h2, _⟩
    · exact h.ge x q h1
    · omega
  · intro q l hq
    have e0 : N (q ++ [l]) ≠ none := by
      by_cases e : q ++ [l] = p
      · rw [e, hp]; simp
      · simpa [e] using hq
    by_cases e : q = p
    · simp [e]
    · simpa [e] using h.closed q l e0
  · show (if fakeP = p then some i' else N fakeP) = none
    rw [if_neg (Ne.symm (h.ne_fake hp))]; exact h.nofake

/-- A new child is linked below the node at p. -/
theorem Inv.link {B0 : Nat} {w w' : World} {own own' : Own} {B : List Key → Nat} {N : Trie} {cnt cnt' : Nat} (h : Inv B0 w own B N cnt) {p : List Key} {i i' : NI} {l : Key} {b' : Nat} (hl9 : p ++ [l] ≠ fakeP) (hp : N p = some i) (hl : N (p ++ [l]) = none) (hc : cnt ≤ cnt') (hc' : i'.mixed.length ≤ cnt')
    (k : Out w own w' own') (hw : ∀ x q t, own x = some (q, t) → q ≠ p → w'.heap[x]? = w.heap[x]?) (ho : ∀ x q, own x = some q → own' x = some q)
    (hn : ∀ x q, own' x = some q → own x = some q ∨ (w.heap.size ≤ x ∧ x < w'.heap.size)) (hB : B0 ≤ w.heap.size) (hob : own' b' = some (p ++ [l], 0))
    (hnew : NodeAt w' b' (.map none) (.slice none 0 0) (.map none) (.pointer none) (.pointer none))
    (hnode : NodeOK w' own' p (B p) (fun k => if k = l then some b' else childBlk B N (p ++ [k])) i') :
    Inv B0 w' own' (fun q => if q = p ++ [l] then b' else B q) (fun q => if q = p ++ [l] then some ⟨none, []⟩ else if q = p then some i' else N q) cnt' := by
  have hpl : p ++ [l] ≠ p := append_one_ne p l
  have hcb : ∀ q, q ≠ p ++ [l] → childBlk (fun q => if q = p ++ [l] then b' else B q) (fun q => if q = p ++ [l] then some ⟨none, []⟩ else if q = p then some i' else N q) q = childBlk B N q := by
    intro q hq
    unfold childBlk
    by_cases e : q = p
    · subst e; simp [hp, hq]
    · simp [e, hq]
  refine ⟨?_, ?_, ?_, ?_, ?_, ?_⟩
  · intro q j hq
    by_cases e1 : q = p ++ [l]
    · subst e1
      simp at hq
      subst hq
      have hf : (fun k => childBlk (fun q => if q = p ++ [l] then b' else B q) (fun q => if q = p ++ [l] then some ⟨none, []⟩ else if q = p then some i' else N q) (p ++ [l] ++ [k])) = fun _ => none := by
        funext k
        have n1 : p ++ [l] ++ [k] ≠ p ++ [l] := append_one_ne _ _
        rw [hcb _ n1]
        unfold childBlk
        have : N (p ++ [l] ++ [k]) = none := by
          cases e : N (p ++ [l] ++ [k]) with
          | none => rfl
          | some x => exact absurd hl (h.closed (p ++ [l]) k (by rw [e]; simp))
        rw [this]; rfl
      rw [hf]
      simp only [if_true]
      refine ⟨.map none, .slice none 0 0, .map none, hnew, hob, Or.inl ⟨rfl, fun _ => rfl⟩, Or.inl ⟨rfl, fun _ => rfl⟩, [], World.ownsRow_nil _ _ _ _, by simp [Value.ownBlock], by simp⟩
    · by_cases e2 : q = p
      · subst e2
        simp [e1] at hq
        subst hq
        have hf : (fun k => childBlk (fun r => if r = q ++ [l] then b' else B r) (fun r => if r = q ++ [l] then some ⟨none, []⟩ else if r = q then some i' else N r) (q ++ [k])) = fun k => if k = l then some b' else childBlk B N (q ++ [k]) := by
          funext k
          by_cases ek : k = l
          · subst ek; simp [childBlk]
          · rw [hcb _ (fun e => ek (append_one_inj e).2), if_neg ek]
        rw [hf]
        simp only [e1, if_false]
        exact hnode
      · simp [e1, e2] at hq
        have hf : (fun k => childBlk (fun r => if r = p ++ [l] then b' else B r) (fun r => if r = p ++ [l] then some ⟨none, []⟩ else if r = p then some i' else N r) (q ++ [k])) = fun k => childBlk B N (q ++ [k]) :=
          funext fun k => hcb _ (fun e => e2 (append_one_inj e).1)
        rw [hf]
        simp only [e1, if_false]
        exact (h.node q j hq).frame (fun x t hx => hw x q t hx e2) (fun x t hx => ho x _ hx) k
  · intro q j hq
    by_cases e1 : q = p ++ [l]
    · simp [e1] at hq; subst hq; simp
    · by_cases e2 : q = p
      · subst e2; simp [e1] at hq; subst hq; exact hc'
      · simp [e1, e2] at hq; exact Nat.le_trans (h.count q j hq) hc
  · intro x q hx
    rcases hn x q hx with h1 | ⟨_, h3⟩
    · exact Nat.lt_of_lt_of_le (h.lt x q h1) k.size
    · exact h3
  · intro x q hx
    rcases hn x q hx with h1 | ⟨h2, _⟩
    · exact h.ge x q h1
    · omega
  · intro q m hq
    by_cases e1 : q = p ++ [l]
    · simp [e1]
    · by_cases e2 : q = p
      · simp [e2, hpl.symm]
      · simp only [e1, e2, if_false]
        have n1 : q ++ [m] ≠ p ++ [l] := fun e => e2 (append_one_inj e).1
        by_cases e3 : q ++ [m] = p
        · exact h.closed q m (by rw [e3, hp]; simp)
        · simp [n1, e3] at hq
          exact h.closed q m hq
  · show (if fakeP = p ++ [l] then some ⟨none, []⟩ else if fakeP = p then some i' else N fakeP) = none
    rw [if_neg (Ne.symm hl9), if_neg (Ne.symm (h.ne_fake hp))]; exact h.nofake

end Go.Proofs.Qxb6001106a
