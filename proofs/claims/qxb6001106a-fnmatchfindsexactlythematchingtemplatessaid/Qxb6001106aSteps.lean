/-
  DERIVED, BY AN AI AGENT. Seat b6001106a: what (*node).child and ZZSetRoute do to the tree in memory, step by step; no walk here.
-/
import Derived.Test.Qxb6001106aHeap
namespace Go.Proofs.Qxb6001106a
open Go.RowKit
open Go.ChangeMaps (setBlock)

theorem bl_inj {u t : ByteArray} (h : bl u = bl t) : u = t := by
  obtain ⟨⟨l⟩⟩ := u
  obtain ⟨⟨l'⟩⟩ := t
  have : l = l' := h
  subst this
  rfl

/-- The streams are as they were; no block has gone. -/
structure Ext (w w' : World) : Prop where
  os : w'.os = w.os
  tape : w'.tape = w.tape
  output : w'.output = w.output
  size : w.heap.size ≤ w'.heap.size

theorem Ext.of_below {B : Nat} {w w' : World} (h : Below B w w') : Ext w w' := ⟨h.os, h.tape, h.output, h.size⟩
theorem Ext.refl (w : World) : Ext w w := ⟨rfl, rfl, rfl, Nat.le_refl _⟩
theorem Ext.trans {w w1 w2 : World} (h : Ext w w1) (k : Ext w1 w2) : Ext w w2 := ⟨k.os.trans h.os, k.tape.trans h.tape, k.output.trans h.output, Nat.le_trans h.size k.size⟩

def put (own : Own) (x : Nat) (v : List Key × Nat) : Own := fun y => if y = x then some v else own y

section
variable {B0 : Nat} {w w' : World} {own own' : Own} {B : List Key → Nat} {N : Trie} {cnt : Nat} {p : List Key} {i i' : NI} {l : Key} {b' : Nat}

theorem kind_ne_fake (s : List ByteArray) (p : List Key) : p ++ [kindOf s] ≠ fakeP := by
  intro e
  have : p ++ [kindOf s] = [] ++ [(9, [])] := e
  have h := (append_one_inj this).2
  have h9 := congrArg Prod.fst h
  unfold kindOf at h9
  split at h9
  · cases h9
  · split at h9 <;> cases h9

theorem out_of (hpf : p ≠ fakeP) (he : Ext w w') (hold : ∀ x, x < w.heap.size → (∀ t, own x ≠ some (p, t)) → w'.heap[x]? = w.heap[x]?) (hoo : ∀ x, x < w.heap.size → own' x = own x) : Out w own w' own' :=
  ⟨he.os, he.tape, he.output, he.size, fun x hx ho => hold x hx (fun t e => by rw [ho] at e; cases e), fun x hx ho => ⟨hold x hx (fun t e => by rw [ho] at e; simp at e; exact hpf e.1.symm), by rw [hoo x hx]; exact ho⟩,
    fun x hx ho => by rw [hoo x hx]; exact ho⟩

theorem Inv.own_none (hI : Inv B0 w own B N cnt) {x : Nat} (hx : w.heap.size ≤ x) : own x = none := by
  cases e : own x with
  | none => rfl
  | some q => have := hI.lt x q e; omega

/-- Blocks of the node at p alone are written (and new ones laid); no child is added. -/
theorem touch_of (hI : Inv B0 w own B N cnt) (hB0 : B0 ≤ w.heap.size) (hp : N p = some i) (he : Ext w w') (hold : ∀ x, x < w.heap.size → (∀ t, own x ≠ some (p, t)) → w'.heap[x]? = w.heap[x]?)
    (hoo : ∀ x, x < w.heap.size → own' x = own x) (hoz : ∀ x q, own' x = some q → x < w'.heap.size) (hc' : i'.mixed.length ≤ cnt)
    (hnode : NodeOK w' own' p (B p) (fun k => childBlk B N (p ++ [k])) i') : Inv B0 w' own' B (fun q => if q = p then some i' else N q) cnt ∧ Out w own w' own' := by
  have hout := out_of (own' := own') (hI.ne_fake hp) he hold hoo
  refine ⟨hI.touch hp (Nat.le_refl _) hc' hout ?_ ?_ ?_ hB0 hnode, hout⟩
  · intro x q t hx hq
    exact hold x (hI.lt x _ hx) (fun t' e => by rw [hx] at e; simp at e; exact hq e.1)
  · intro x q hx
    rw [hoo x (hI.lt x _ hx)]; exact hx
  · intro x q hx
    by_cases h : x < w.heap.size
    · left; rw [← hoo x h]; exact hx
    · right; exact ⟨by omega, hoz x q hx⟩

/-- A child is added below the node at p. -/
theorem link_of (hI : Inv B0 w own B N cnt) (hl9 : p ++ [l] ≠ fakeP) (hB0 : B0 ≤ w.heap.size) (hp : N p = some i) (hl : N (p ++ [l]) = none) (he : Ext w w') (hold : ∀ x, x < w.heap.size → (∀ t, own x ≠ some (p, t)) → w'.heap[x]? = w.heap[x]?)
    (hoo : ∀ x, x < w.heap.size → own' x = own x) (hoz : ∀ x q, own' x = some q → x < w'.heap.size) (hc' : i'.mixed.length ≤ cnt + 1) (hob : own' b' = some (p ++ [l], 0))
    (hnew : NodeAt w' b' (.map none) (.slice none 0 0) (.map none) (.pointer none) (.pointer none))
    (hnode : NodeOK w' own' p (B p) (fun k => if k = l then some b' else childBlk B N (p ++ [k])) i') :
    Inv B0 w' own' (fun q => if q = p ++ [l] then b' else B q) (fun q => if q = p ++ [l] then some ⟨none, []⟩ else if q = p then some i' else N q) (cnt + 1) ∧ Out w own w' own' := by
  have hout := out_of (own' := own') (hI.ne_fake hp) he hold hoo
  refine ⟨hI.link hl9 hp hl (Nat.le_succ _) hc' hout ?_ ?_ ?_ hB0 hob hnew hnode, hout⟩
  · intro x q t hx hq
    exact hold x (hI.lt x _ hx) (fun t' e => by rw [hx] at e; simp at e; exact hq e.1)
  · intro x q hx
    rw [hoo x (hI.lt x _ hx)]; exact hx
  · intro x q hx
    by_cases h : x < w.heap.size
    · left; rw [← hoo x h]; exact hx
    · right; exact ⟨by omega, hoz x q hx⟩

theorem trie_same (hp : N p = some i) : (fun q => if q = p then some i else N q) = N := by
  funext q
  by_cases e : q = p
  · subst e; rw [if_pos rfl, hp]
  · rw [if_neg e]

/-- What (*node).child comes to. -/
def ChildPost (B0 : Nat) (w : World) (own : Own) (B : List Key → Nat) (N : Trie) (cnt : Nat) (p : List Key) (s : List ByteArray) (e : Ending) (w' : World) : Prop :=
  ∃ own' B', e = .returned (.pointer (some ⟨B' (p ++ [kindOf s]), 0, none⟩)) ∧ Inv B0 w' own' B' (childP N p s) (cnt + 1) ∧ Out w own w' own' ∧ (∀ q, N q ≠ none → B' q = B q) ∧ childP N p s (p ++ [kindOf s]) ≠ none

theorem Inv.more (hI : Inv B0 w own B N cnt) : Inv B0 w own B N (cnt + 1) := ⟨hI.node, fun p i h => Nat.le_succ_of_le (hI.count p i h), hI.lt, hI.ge, hI.closed, hI.nofake⟩

theorem ChildPost.old {s : List ByteArray} {j : NI} (hI : Inv B0 w' own' B N cnt) (ho : Out w own w' own') (hj : N (p ++ [kindOf s]) = some j) :
    ChildPost B0 w own B N cnt p s (.returned (.pointer (some ⟨B (p ++ [kindOf s]), 0, none⟩))) w' := by
  have e : childP N p s = N := by unfold childP; rw [hj]; cases N p <;> rfl
  exact ⟨own', B, rfl, by rw [e]; exact hI.more, ho, fun _ _ => rfl, by rw [e, hj]; simp⟩

theorem ChildPost.new {s : List ByteArray} {w1 : World} {own1 : Own} (hp : N p = some i) (hl : N (p ++ [kindOf s]) = none) (ho : Out w own w1 own1)
    (hk : Inv B0 w' own' (fun q => if q = p ++ [kindOf s] then b' else B q) (fun q => if q = p ++ [kindOf s] then some ⟨none, []⟩ else if q = p then some (i.add s) else N q) (cnt + 1) ∧ Out w1 own1 w' own') :
    ChildPost B0 w own B N cnt p s (.returned (.pointer (some ⟨b', 0, none⟩))) w' := by
  have e : childP N p s = fun q => if q = p ++ [kindOf s] then some ⟨none, []⟩ else if q = p then some (i.add s) else N q := by unfold childP; rw [hp, hl]
  refine ⟨own', fun q => if q = p ++ [kindOf s] then b' else B q, by simp, by rw [e]; exact hk.1, ho.trans hk.2, fun q hq => ?_, by rw [e]; simp⟩
  have : q ≠ p ++ [kindOf s] := fun e => hq (by rw [e]; exact hl)
  simp [this]

end

/-! ### A node's cells -/
section
variable {w : World} {b : Nat} {c0 c1 c2 c3 c4 : Value}
theorem NodeAt.cell0 (h : NodeAt w b c0 c1 c2 c3 c4) : w.cell? ⟨b, 0, none⟩ = some c0 := by simp [World.cell?, show w.heap[b]? = _ from h]
theorem NodeAt.cell1 (h : NodeAt w b c0 c1 c2 c3 c4) : w.cell? ⟨b, 1, none⟩ = some c1 := by simp [World.cell?, show w.heap[b]? = _ from h]
theorem NodeAt.cell2 (h : NodeAt w b c0 c1 c2 c3 c4) : w.cell? ⟨b, 2, none⟩ = some c2 := by simp [World.cell?, show w.heap[b]? = _ from h]
theorem NodeAt.cell3 (h : NodeAt w b c0 c1 c2 c3 c4) : w.cell? ⟨b, 3, none⟩ = some c3 := by simp [World.cell?, show w.heap[b]? = _ from h]
theorem NodeAt.cell4 (h : NodeAt w b c0 c1 c2 c3 c4) : w.cell? ⟨b, 4, none⟩ = some c4 := by simp [World.cell?, show w.heap[b]? = _ from h]
theorem NodeAt.frozen (h : NodeAt w b c0 c1 c2 c3 c4) (o : Nat) : w.frozen? ⟨b, o, none⟩ = false := by simp [World.frozen?, show w.heap[b]? = _ from h]
theorem NodeAt.lt (h : NodeAt w b c0 c1 c2 c3 c4) : b < w.heap.size := (Array.getElem?_eq_some_iff.1 h).1
theorem NodeAt.of_block {w' : World} (h : NodeAt w b c0 c1 c2 c3 c4) (e : w'.heap[b]? = w.heap[b]?) : NodeAt w' b c0 c1 c2 c3 c4 := by unfold NodeAt; rw [e]; exact h
theorem NodeAt.set0 (h : NodeAt w b c0 c1 c2 c3 c4) (v : Value) : NodeAt (w.setCell ⟨b, 0, none⟩ v) b v c1 c2 c3 c4 := by
  simp [NodeAt, World.setCell, Array.getElem?_modify, show w.heap[b]? = _ from h]
theorem NodeAt.set1 (h : NodeAt w b c0 c1 c2 c3 c4) (v : Value) : NodeAt (w.setCell ⟨b, 1, none⟩ v) b c0 v c2 c3 c4 := by
  simp [NodeAt, World.setCell, Array.getElem?_modify, show w.heap[b]? = _ from h]
theorem NodeAt.set2 (h : NodeAt w b c0 c1 c2 c3 c4) (v : Value) : NodeAt (w.setCell ⟨b, 2, none⟩ v) b c0 c1 v c3 c4 := by
  simp [NodeAt, World.setCell, Array.getElem?_modify, show w.heap[b]? = _ from h]
theorem NodeAt.set3 (h : NodeAt w b c0 c1 c2 c3 c4) (v : Value) : NodeAt (w.setCell ⟨b, 3, none⟩ v) b c0 c1 c2 v c4 := by
  simp [NodeAt, World.setCell, Array.getElem?_modify, show w.heap[b]? = _ from h]
theorem NodeAt.set4 (h : NodeAt w b c0 c1 c2 c3 c4) (v : Value) : NodeAt (w.setCell ⟨b, 4, none⟩ v) b c0 c1 c2 c3 v := by
  simp [NodeAt, World.setCell, Array.getElem?_modify, show w.heap[b]? = _ from h]
end

def emptyNode : Obj := .cells #[.map none, .slice none 0 0, .map none, .pointer none, .pointer none] 57

/-! ### ZZSetRoute -/
theorem route_step {B0 : Nat} {w : World} {own : Own} {B : List Key → Nat} {N : Trie} {cnt : Nat} {p : List Key} {i : NI} (hI : Inv B0 w own B N cnt) (hB0 : B0 ≤ w.heap.size) (hp : N p = some i) (r : Nat) :
    Inv B0 (w.setCell ⟨B p, 4, none⟩ (.pointer (some ⟨r, 0, none⟩))) own B (routeP N p r) cnt ∧ Out w own (w.setCell ⟨B p, 4, none⟩ (.pointer (some ⟨r, 0, none⟩))) own := by
  obtain ⟨c0, c1, c2, hat, hown, hm0, hm2, hmix⟩ := hI.node p i hp
  have hne : ∀ x, x ≠ B p → (w.setCell ⟨B p, 4, none⟩ (.pointer (some ⟨r, 0, none⟩))).heap[x]? = w.heap[x]? := fun x hx => Below.heap_setCell _ _ _ _ hx
  have hsz : (w.setCell ⟨B p, 4, none⟩ (.pointer (some ⟨r, 0, none⟩))).heap.size = w.heap.size := by simp [World.setCell]
  have e : routeP N p r = fun q => if q = p then some { i with route := some r } else N q := by unfold routeP; rw [hp]
  rw [e]
  have hold : ∀ x, x < w.heap.size → (∀ t, own x ≠ some (p, t)) → (w.setCell ⟨B p, 4, none⟩ (.pointer (some ⟨r, 0, none⟩))).heap[x]? = w.heap[x]? := fun x _ hx => hne x (fun e => hx 0 (by rw [e]; exact hown))
  have hext : Ext w (w.setCell ⟨B p, 4, none⟩ (.pointer (some ⟨r, 0, none⟩))) := ⟨rfl, rfl, rfl, by rw [hsz]; exact Nat.le_refl _⟩
  have hout := out_of (own' := own) (hI.ne_fake hp) hext hold (fun _ _ => rfl)
  have tag : ∀ x t, own x = some (p, t) → t ≠ 0 → x ≠ B p := fun x t hx ht e => by rw [e, hown] at hx; simp at hx; exact ht hx.symm
  refine touch_of hI hB0 hp hext hold (fun _ _ => rfl) (fun x q hx => by rw [hsz]; exact hI.lt x q hx) (hI.count p i hp) ?_
  exact ⟨c0, c1, c2, hat.set4 _, hown, hm0.frame (fun x hx => hne x (tag x 1 hx (by simp))) (fun _ h => h), hm2.frame (fun x hx => hne x (tag x 2 hx (by simp))) (fun _ h => h),
    hmix.frame (fun x hx => hne x (tag x 3 hx (by simp))) (fun _ h => h) hout (fun _ _ => rfl)⟩

/-! ### (*node).child: a parameter -/
theorem heap_set_alloc (w : World) (a : Addr) (v : Value) (o : Obj) (x : Nat) (hx : x < w.heap.size) (hne : x ≠ a.block) : ((w.setCell a v).alloc o).heap[x]? = w.heap[x]? := by
  rw [Below.heap_alloc _ _ _ (by simpa [World.setCell] using hx), Below.heap_setCell _ _ _ _ hne]
theorem size_set_alloc (w : World) (a : Addr) (v : Value) (o : Obj) : ((w.setCell a v).alloc o).heap.size = w.heap.size + 1 := by simp [World.setCell]
theorem heap_set_alloc_new (w : World) (a : Addr) (v : Value) (o : Obj) : ((w.setCell a v).alloc o).heap[w.heap.size]? = some o := by
  have h := heap_alloc_new (w.setCell a v) o
  rwa [show (w.setCell a v).heap.size = w.heap.size from by simp [World.setCell]] at h
theorem heap_set_alloc_at (w : World) (a : Addr) (v : Value) (o : Obj) (h : a.block < w.heap.size) : ((w.setCell a v).alloc o).heap[a.block]? = (w.setCell a v).heap[a.block]? :=
  Below.heap_alloc _ _ _ (by simpa [World.setCell] using h)
theorem ext_set_alloc (w : World) (a : Addr) (v : Value) (o : Obj) : Ext w ((w.setCell a v).alloc o) := ⟨rfl, rfl, rfl, by rw [size_set_alloc]; exact Nat.le_succ _⟩

section
variable {B0 : Nat} {w : World} {own : Own} {B : List Key → Nat} {N : Trie} {cnt : Nat} {p : List Key} {i : NI}

theorem MixOK.fresh {q : List Key × Nat} {v : Value} {f : Key → Option Nat} {L : List (List ByteArray)} {l : Key} (h : MixOK w own q v f L) (hl : f l = none) : ∀ r ∈ L, kindOf r ≠ l := by
  intro r hr e
  obtain ⟨xs, _, _, h3⟩ := h
  obtain ⟨j, hj⟩ := List.getElem?_of_mem hr
  obtain ⟨a, c, b, _, _, g3, _⟩ := h3 j r hj
  rw [e, hl] at g3
  cases g3

theorem put_old (x : Nat) (v : List Key × Nat) (y : Nat) (h : y ≠ x) : put own x v y = own y := by simp [put, h]
theorem put_new (x : Nat) (v : List Key × Nat) : put own x v x = some v := by simp [put]

theorem param_step {s : List ByteArray} (hI : Inv B0 w own B N cnt) (hB0 : B0 ≤ w.heap.size) (hp : N p = some i) (hk : kindOf s = (0, [])) (hl : N (p ++ [kindOf s]) = none) :
    ChildPost B0 w own B N cnt p s (.returned (.pointer (some ⟨w.heap.size, 0, none⟩))) ((w.setCell ⟨B p, 3, none⟩ (.pointer (some ⟨w.heap.size, 0, none⟩))).alloc emptyNode) := by
  obtain ⟨c0, c1, c2, hat, hown, hm0, hm2, hmix⟩ := hI.node p i hp
  have hblt := hat.lt
  have hsz := size_set_alloc w ⟨B p, 3, none⟩ (.pointer (some ⟨w.heap.size, 0, none⟩)) emptyNode
  have hnw := heap_set_alloc_new w ⟨B p, 3, none⟩ (.pointer (some ⟨w.heap.size, 0, none⟩)) emptyNode
  have hatB := heap_set_alloc_at w ⟨B p, 3, none⟩ (.pointer (some ⟨w.heap.size, 0, none⟩)) emptyNode hblt
  have hext := ext_set_alloc w ⟨B p, 3, none⟩ (.pointer (some ⟨w.heap.size, 0, none⟩)) emptyNode
  have hne : ∀ x, x < w.heap.size → x ≠ B p → ((w.setCell ⟨B p, 3, none⟩ (.pointer (some ⟨w.heap.size, 0, none⟩))).alloc emptyNode).heap[x]? = w.heap[x]? := fun x hx h => heap_set_alloc _ _ _ _ _ hx h
  generalize hw' : (w.setCell ⟨B p, 3, none⟩ (.pointer (some ⟨w.heap.size, 0, none⟩))).alloc emptyNode = w' at *
  have hnat : NodeAt w' (B p) c0 c1 c2 (.pointer (some ⟨w.heap.size, 0, none⟩)) (ptrO i.route) := (hat.set3 _).of_block hatB
  have hoo : ∀ x, x < w.heap.size → put own w.heap.size (p ++ [kindOf s], 0) x = own x := fun x hx => put_old _ _ _ (by omega)
  have hold : ∀ x, x < w.heap.size → (∀ t, own x ≠ some (p, t)) → w'.heap[x]? = w.heap[x]? := fun x hx h => hne x hx (fun e => h 0 (by rw [e]; exact hown))
  have hout := out_of (own' := put own w.heap.size (p ++ [kindOf s], 0)) (hI.ne_fake hp) hext hold hoo
  have tag : ∀ x t, own x = some (p, t) → t ≠ 0 → w'.heap[x]? = w.heap[x]? := fun x t hx ht => hne x (hI.lt x _ hx) (fun e => by rw [e, hown] at hx; simp at hx; exact ht hx.symm)
  have keep : ∀ x t, own x = some (p, t) → put own w.heap.size (p ++ [kindOf s], 0) x = some (p, t) := fun x t hx => by rw [hoo x (hI.lt x _ hx)]; exact hx
  have hadd : i.add s = i := by unfold NI.add; rw [hk]; rfl
  refine ChildPost.new hp hl (Out.refl w own) (b' := w.heap.size) (own' := put own w.heap.size (p ++ [kindOf s], 0)) ?_
  rw [hadd]
  refine link_of hI (kind_ne_fake s p) hB0 hp hl hext hold hoo ?_ (Nat.le_succ_of_le (hI.count p i hp)) (put_new _ _) ?_ ?_
  · intro x q hx
    by_cases e : x = w.heap.size
    · omega
    · rw [put_old _ _ _ e] at hx; have := hI.lt x q hx; omega
  · exact hnw
  · refine ⟨c0, c1, c2, ?_, keep _ _ hown, ?_, ?_, ?_⟩
    · rw [hk]; exact hnat
    · have := hm0.frame (own' := put own w.heap.size (p ++ [kindOf s], 0)) (fun x hx => tag x 1 hx (by simp)) (fun x hx => keep x 1 hx)
      rw [hk] at this ⊢
      simpa using this
    · have := hm2.frame (own' := put own w.heap.size (p ++ [kindOf s], 0)) (fun x hx => tag x 2 hx (by simp)) (fun x hx => keep x 2 hx)
      rw [hk] at this ⊢
      simpa using this
    · refine hmix.frame (fun x hx => tag x 3 hx (by simp)) (fun x hx => keep x 3 hx) hout ?_
      intro r hr
      have : kindOf r ≠ kindOf s := hmix.fresh (by simp [childBlk, hl]) r hr
      simp [this]

/-! ### (*node).child: a map is made -/
theorem NodeAt.uniq {w : World} {b : Nat} {c0 c1 c2 c3 c4 d0 d1 d2 d3 d4 : Value} (h : NodeAt w b c0 c1 c2 c3 c4) (k : NodeAt w b d0 d1 d2 d3 d4) : c0 = d0 ∧ c1 = d1 ∧ c2 = d2 ∧ c3 = d3 ∧ c4 = d4 := by
  have e := Option.some.inj (h.symm.trans k)
  simp at e
  exact e

/-- 'n.literals = make(map..)'. -/
theorem map0_step (hI : Inv B0 w own B N cnt) (hB0 : B0 ≤ w.heap.size) (hp : N p = some i) (hc : w.cell? ⟨B p, 0, none⟩ = some (.map none)) :
    ∃ own', Inv B0 ((w.setCell ⟨B p, 0, none⟩ (.map (some w.heap.size))).alloc (.map #[] 0)) own' B N cnt ∧ Out w own ((w.setCell ⟨B p, 0, none⟩ (.map (some w.heap.size))).alloc (.map #[] 0)) own' := by
  obtain ⟨c0, c1, c2, hat, hown, hm0, hm2, hmix⟩ := hI.node p i hp
  have e0 : c0 = .map none := by rw [hat.cell0] at hc; exact Option.some.inj hc
  subst e0
  have hg : ∀ t, childBlk B N (p ++ [(1, t)]) = none := by
    rcases hm0 with ⟨_, h⟩ | ⟨m, _, _, h, _⟩
    · exact h
    · cases h
  have hblt := hat.lt
  have hsz := size_set_alloc w ⟨B p, 0, none⟩ (.map (some w.heap.size)) (.map #[] 0)
  have hnw := heap_set_alloc_new w ⟨B p, 0, none⟩ (.map (some w.heap.size)) (.map #[] 0)
  have hatB := heap_set_alloc_at w ⟨B p, 0, none⟩ (.map (some w.heap.size)) (.map #[] 0) hblt
  have hext := ext_set_alloc w ⟨B p, 0, none⟩ (.map (some w.heap.size)) (.map #[] 0)
  have hne : ∀ x, x < w.heap.size → x ≠ B p → ((w.setCell ⟨B p, 0, none⟩ (.map (some w.heap.size))).alloc (.map #[] 0)).heap[x]? = w.heap[x]? := fun x hx h => heap_set_alloc _ _ _ _ _ hx h
  generalize (w.setCell ⟨B p, 0, none⟩ (.map (some w.heap.size))).alloc (.map #[] 0) = w' at *
  have hnat := (hat.set0 (.map (some w.heap.size))).of_block hatB
  have hoo : ∀ x, x < w.heap.size → put own w.heap.size (p, 1) x = own x := fun x hx => put_old _ _ _ (by omega)
  have hold : ∀ x, x < w.heap.size → (∀ t, own x ≠ some (p, t)) → w'.heap[x]? = w.heap[x]? := fun x hx h => hne x hx (fun e => h 0 (by rw [e]; exact hown))
  have hout := out_of (own' := put own w.heap.size (p, 1)) (hI.ne_fake hp) hext hold hoo
  have tag : ∀ x t, own x = some (p, t) → t ≠ 0 → w'.heap[x]? = w.heap[x]? := fun x t hx ht => hne x (hI.lt x _ hx) (fun e => by rw [e, hown] at hx; simp at hx; exact ht hx.symm)
  have keep : ∀ x t, own x = some (p, t) → put own w.heap.size (p, 1) x = some (p, t) := fun x t hx => by rw [hoo x (hI.lt x _ hx)]; exact hx
  refine ⟨put own w.heap.size (p, 1), ?_⟩
  have key := touch_of (i' := i) (own' := put own w.heap.size (p, 1)) hI hB0 hp hext hold hoo ?_ (hI.count p i hp) ?_
  · rwa [trie_same hp] at key
  · intro x q hx
    by_cases e : x = w.heap.size
    · omega
    · rw [put_old _ _ _ e] at hx; have := hI.lt x q hx; omega
  · refine ⟨.map (some w.heap.size), c1, c2, hnat, keep _ _ hown, ?_, hm2.frame (fun x hx => tag x 2 hx (by simp)) (fun x hx => keep x 2 hx), hmix.frame (fun x hx => tag x 3 hx (by simp)) (fun x hx => keep x 3 hx) hout (fun _ _ => rfl)⟩
    exact Or.inr ⟨w.heap.size, #[], 0, rfl, put_new _ _, hnw, by simp [AllStr], fun t => by simp [look, hg]⟩

/-- 'n.mixedKey = make(map..)'. -/
theorem map2_step (hI : Inv B0 w own B N cnt) (hB0 : B0 ≤ w.heap.size) (hp : N p = some i) (hc : w.cell? ⟨B p, 2, none⟩ = some (.map none)) :
    ∃ own', Inv B0 ((w.setCell ⟨B p, 2, none⟩ (.map (some w.heap.size))).alloc (.map #[] 0)) own' B N cnt ∧ Out w own ((w.setCell ⟨B p, 2, none⟩ (.map (some w.heap.size))).alloc (.map #[] 0)) own' := by
  obtain ⟨c0, c1, c2, hat, hown, hm0, hm2, hmix⟩ := hI.node p i hp
  have e0 : c2 = .map none := by rw [hat.cell2] at hc; exact Option.some.inj hc
  subst e0
  have hg : ∀ t, childBlk B N (p ++ [(2, t)]) = none := by
    rcases hm2 with ⟨_, h⟩ | ⟨m, _, _, h, _⟩
    · exact h
    · cases h
  have hblt := hat.lt
  have hsz := size_set_alloc w ⟨B p, 2, none⟩ (.map (some w.heap.size)) (.map #[] 0)
  have hnw := heap_set_alloc_new w ⟨B p, 2, none⟩ (.map (some w.heap.size)) (.map #[] 0)
  have hatB := heap_set_alloc_at w ⟨B p, 2, none⟩ (.map (some w.heap.size)) (.map #[] 0) hblt
  have hext := ext_set_alloc w ⟨B p, 2, none⟩ (.map (some w.heap.size)) (.map #[] 0)
  have hne : ∀ x, x < w.heap.size → x ≠ B p → ((w.setCell ⟨B p, 2, none⟩ (.map (some w.heap.size))).alloc (.map #[] 0)).heap[x]? = w.heap[x]? := fun x hx h => heap_set_alloc _ _ _ _ _ hx h
  generalize (w.setCell ⟨B p, 2, none⟩ (.map (some w.heap.size))).alloc (.map #[] 0) = w' at *
  have hnat := (hat.set2 (.map (some w.heap.size))).of_block hatB
  have hoo : ∀ x, x < w.heap.size → put own w.heap.size (p, 2) x = own x := fun x hx => put_old _ _ _ (by omega)
  have hold : ∀ x, x < w.heap.size → (∀ t, own x ≠ some (p, t)) → w'.heap[x]? = w.heap[x]? := fun x hx h => hne x hx (fun e => h 0 (by rw [e]; exact hown))
  have hout := out_of (own' := put own w.heap.size (p, 2)) (hI.ne_fake hp) hext hold hoo
  have tag : ∀ x t, own x = some (p, t) → t ≠ 0 → w'.heap[x]? = w.heap[x]? := fun x t hx ht => hne x (hI.lt x _ hx) (fun e => by rw [e, hown] at hx; simp at hx; exact ht hx.symm)
  have keep : ∀ x t, own x = some (p, t) → put own w.heap.size (p, 2) x = some (p, t) := fun x t hx => by rw [hoo x (hI.lt x _ hx)]; exact hx
  refine ⟨put own w.heap.size (p, 2), ?_⟩
  have key := touch_of (i' := i) (own' := put own w.heap.size (p, 2)) hI hB0 hp hext hold hoo ?_ (hI.count p i hp) ?_
  · rwa [trie_same hp] at key
  · intro x q hx
    by_cases e : x = w.heap.size
    · omega
    · rw [put_old _ _ _ e] at hx; have := hI.lt x q hx; omega
  · refine ⟨c0, c1, .map (some w.heap.size), hnat, keep _ _ hown, hm0.frame (fun x hx => tag x 1 hx (by simp)) (fun x hx => keep x 1 hx), ?_, hmix.frame (fun x hx => tag x 3 hx (by simp)) (fun x hx => keep x 3 hx) hout (fun _ _ => rfl)⟩
    exact Or.inr ⟨w.heap.size, #[], 0, rfl, put_new _ _, hnw, by simp [AllStr], fun t => by simp [look, hg]⟩

/-! ### (*node).child: a literal -/
theorem size_setBlock (w : World) (b : Nat) (o : Obj) : (setBlock w b o).heap.size = w.heap.size := by simp [setBlock]
theorem heap_setBlock_other (w : World) (b : Nat) (o : Obj) (x : Nat) (h : x ≠ b) : (setBlock w b o).heap[x]? = w.heap[x]? := by
  simp only [setBlock]
  rw [Array.getElem?_setIfInBounds]
  simp [Ne.symm h]
theorem heap_setBlock_at (w : World) (b : Nat) (o : Obj) (h : b < w.heap.size) : (setBlock w b o).heap[b]? = some o := by
  simp only [setBlock]
  rw [Array.getElem?_setIfInBounds]
  simp [h]

theorem lit_step {s : List ByteArray} {t : ByteArray} {m : Nat} {es : Array MapEntry} {clk : Nat} {w' w0 : World} {own0 : Own} (hI : Inv B0 w own B N cnt) (hB0 : B0 ≤ w.heap.size) (hp : N p = some i) (hk : kindOf s = (1, bl t)) (hl : N (p ++ [kindOf s]) = none)
    (hc : w.cell? ⟨B p, 0, none⟩ = some (.map (some m))) (hm : w.heap[m]? = some (.map es clk))
    (hh : w'.heap = (setBlock (w.alloc emptyNode) m (.map (es.push { key := .string t, val := .pointer (some ⟨w.heap.size, 0, none⟩), born := clk }) (clk + 1))).heap) (hext : Ext w w') (ho : Out w0 own0 w own) :
    ChildPost B0 w0 own0 B N cnt p s (.returned (.pointer (some ⟨w.heap.size, 0, none⟩))) w' := by
  obtain ⟨c0, c1, c2, hat, hown, hm0, hm2, hmix⟩ := hI.node p i hp
  have e0 : c0 = .map (some m) := by rw [hat.cell0] at hc; exact Option.some.inj hc
  subst e0
  rcases hm0 with ⟨h, _⟩ | ⟨m', es', clk', h, hom, hm', hall, hlook⟩
  · cases h
  cases h
  rw [hm] at hm'
  cases hm'
  have hmlt : m < w.heap.size := hI.lt m _ hom
  have hblt := hat.lt
  have hmb : m ≠ B p := fun e => by rw [e, hown] at hom; cases hom
  have hsz : w'.heap.size = w.heap.size + 1 := by rw [hh, size_setBlock]; simp
  have hne : ∀ x, x < w.heap.size → x ≠ m → w'.heap[x]? = w.heap[x]? := fun x hx h => by
    rw [hh, heap_setBlock_other _ _ _ _ h, Below.heap_alloc _ _ _ hx]
  have hnw : w'.heap[w.heap.size]? = some emptyNode := by rw [hh, heap_setBlock_other _ _ _ _ (by omega)]; exact heap_alloc_new w _
  have hnm : w'.heap[m]? = some (.map (es.push { key := .string t, val := .pointer (some ⟨w.heap.size, 0, none⟩), born := clk }) (clk + 1)) := by rw [hh, heap_setBlock_at _ _ _ (by simp; omega)]
  have hoo : ∀ x, x < w.heap.size → put own w.heap.size (p ++ [kindOf s], 0) x = own x := fun x hx => put_old _ _ _ (by omega)
  have hold : ∀ x, x < w.heap.size → (∀ t, own x ≠ some (p, t)) → w'.heap[x]? = w.heap[x]? := fun x hx h => hne x hx (fun e => h 1 (by rw [e]; exact hom))
  have hout := out_of (own' := put own w.heap.size (p ++ [kindOf s], 0)) (hI.ne_fake hp) hext hold hoo
  have tag : ∀ x t, own x = some (p, t) → t ≠ 1 → w'.heap[x]? = w.heap[x]? := fun x t hx ht => hne x (hI.lt x _ hx) (fun e => by rw [e, hom] at hx; simp at hx; exact ht hx.symm)
  have keep : ∀ x t, own x = some (p, t) → put own w.heap.size (p ++ [kindOf s], 0) x = some (p, t) := fun x t hx => by rw [hoo x (hI.lt x _ hx)]; exact hx
  have hadd : i.add s = i := by unfold NI.add; rw [hk]; rfl
  refine ChildPost.new hp hl ho (b' := w.heap.size) (own' := put own w.heap.size (p ++ [kindOf s], 0)) ?_
  rw [hadd]
  refine link_of hI (kind_ne_fake s p) hB0 hp hl hext hold hoo ?_ (Nat.le_succ_of_le (hI.count p i hp)) (put_new _ _) hnw ?_
  · intro x q hx
    by_cases e : x = w.heap.size
    · omega
    · rw [put_old _ _ _ e] at hx; have := hI.lt x q hx; omega
  · refine ⟨.map (some m), c1, c2, ?_, keep _ _ hown, ?_, ?_, ?_⟩
    · have := hat.of_block (tag _ 0 hown (by simp))
      rw [hk]
      simpa using this
    · refine Or.inr ⟨m, _, _, rfl, keep _ _ hom, hnm, ?_, ?_⟩
      · rw [Array.toList_push]; exact hall.push _ _ _
      · intro u
        have hnone : look t es.toList = none := by
          rw [hlook t]
          simp only [childBlk, ← hk, hl]; rfl
        rw [Array.toList_push, look_push _ _ _ _ _ hnone, hk]
        by_cases e : u = t
        · subst e; simp
        · have : bl u ≠ bl t := fun h => e (bl_inj h)
          simp [e, this, hlook u]
    · have := hm2.frame (own' := put own w.heap.size (p ++ [kindOf s], 0)) (fun x hx => tag x 2 hx (by simp)) (fun x hx => keep x 2 hx)
      rw [hk] at this ⊢
      simpa using this
    · refine hmix.frame (fun x hx => tag x 3 hx (by simp)) (fun x hx => keep x 3 hx) hout ?_
      intro r hr
      have : kindOf r ≠ kindOf s := hmix.fresh (by simp [childBlk, hl]) r hr
      simp [this]

/-! ### (*node).child: a mixed segment -/
theorem mix_step {s : List ByteArray} {k : ByteArray} {m : Nat} {es : Array MapEntry} {clk : Nat} {a : Option Addr} {c : Nat} {v' : Value} {xs : List Value} {w' w0 : World} {own0 : Own} {c1 : Value}
    (hI : Inv B0 w own B N cnt) (hB0 : B0 ≤ w.heap.size) (hp : N p = some i) (hk : kindOf s = (2, bl k)) (hl : N (p ++ [kindOf s]) = none) (hs2 : 2 ≤ s.length) (hseg : SegOK w own a c s)
    (hc : w.cell? ⟨B p, 2, none⟩ = some (.map (some m))) (hm : w.heap[m]? = some (.map es clk)) (hc1 : w.cell? ⟨B p, 1, none⟩ = some c1) (hrow : w.ownsRow 0 66 2 c1 i.mixed.length xs)
    (hnat : ∀ d0 d1 d2 d3 d4, NodeAt w (B p) d0 d1 d2 d3 d4 → NodeAt w' (B p) d0 v' d2 d3 d4)
    (hnm : w'.heap[m]? = some (.map (es.push { key := .string k, val := .pointer (some ⟨w.heap.size, 0, none⟩), born := clk }) (clk + 1)))
    (hnw : w'.heap[w.heap.size]? = some emptyNode) (hrow' : w'.ownsRow 0 66 2 v' (i.mixed.length + 1) (xs ++ [.slice a s.length c, .pointer (some ⟨w.heap.size, 0, none⟩)]))
    (hvb : ∀ g, v'.ownBlock = some g → c1.ownBlock = some g ∨ w.heap.size < g)
    (hne : ∀ x, x < w.heap.size → x ≠ m → x ≠ B p → c1.ownBlock ≠ some x → w'.heap[x]? = w.heap[x]?) (hext : Ext w w') (ho : Out w0 own0 w own) :
    ChildPost B0 w0 own0 B N cnt p s (.returned (.pointer (some ⟨w.heap.size, 0, none⟩))) w' := by
  obtain ⟨d0, d1, d2, hat, hown, hm0, hm2, hmix⟩ := hI.node p i hp
  have e0 : d2 = .map (some m) := by rw [hat.cell2] at hc; exact Option.some.inj hc
  have e1 : d1 = c1 := by rw [hat.cell1] at hc1; exact Option.some.inj hc1
  subst e0 e1
  rcases hm2 with ⟨h, _⟩ | ⟨m', es', clk', h, hom, hm', hall, hlook⟩
  · cases h
  cases h
  rw [hm] at hm'
  cases hm'
  obtain ⟨xs0, hrow0, hog, hel⟩ := hmix
  have exs : xs0 = xs := by
    obtain ⟨q1, q2⟩ := hrow0
    obtain ⟨r1, r2⟩ := hrow
    rcases q2 with ⟨hv, hn⟩ | ⟨g, cap, cur, hv, hg, hh, a1, a2, a3, a4⟩
    · rw [hn] at q1 r1
      rw [List.eq_nil_of_length_eq_zero (by omega : xs0.length = 0), List.eq_nil_of_length_eq_zero (by omega : xs.length = 0)]
    · rcases r2 with ⟨hv', _⟩ | ⟨g', cap', cur', hv', _, hh', _, _, _, b4⟩
      · rw [hv] at hv'; cases hv'
      · rw [hv] at hv'
        simp at hv'
        obtain ⟨rfl, rfl⟩ := hv'
        rw [hh] at hh'
        simp at hh'
        subst hh'
        rw [← a4, ← b4]
  subst exs
  have hmlt : m < w.heap.size := hI.lt m _ hom
  have hblt := hat.lt
  have hmb : m ≠ B p := fun e => by rw [e, hown] at hom; cases hom
  have hw'sz : w.heap.size < w'.heap.size := (Array.getElem?_eq_some_iff.1 hnw).1
  have hv'lt : ∀ g, v'.ownBlock = some g → g < w'.heap.size := fun g hg => (World.ownsRow.lt hrow' g hg).2
  -- who owns what behind the step
  obtain ⟨own', hown'⟩ : ∃ own' : Own, own' = fun x => if x = w.heap.size then some (p ++ [kindOf s], 0) else if x < w.heap.size then own x else if v'.ownBlock = some x then some (p, 3) else none := ⟨_, rfl⟩
  have hoo : ∀ x, x < w.heap.size → own' x = own x := fun x hx => by rw [hown']; simp [hx, show x ≠ w.heap.size from by omega]
  have hob : own' w.heap.size = some (p ++ [kindOf s], 0) := by rw [hown']; simp
  have hog' : ∀ g, v'.ownBlock = some g → own' g = some (p, 3) := fun g hg => by
    rcases hvb g hg with h | h
    · rw [hoo g (hI.lt g _ (hog g h))]; exact hog g h
    · rw [hown']; simp [show g ≠ w.heap.size from by omega, show ¬ g < w.heap.size from by omega, hg]
  have hold : ∀ x, x < w.heap.size → (∀ t, own x ≠ some (p, t)) → w'.heap[x]? = w.heap[x]? := fun x hx h =>
    hne x hx (fun e => h 2 (by rw [e]; exact hom)) (fun e => h 0 (by rw [e]; exact hown)) (fun e => h 3 (hog x e))
  have hout := out_of (own' := own') (hI.ne_fake hp) hext hold hoo
  have tag1 : ∀ x, own x = some (p, 1) → w'.heap[x]? = w.heap[x]? := fun x hx => hne x (hI.lt x _ hx) (fun e => by rw [e, hom] at hx; cases hx) (fun e => by rw [e, hown] at hx; cases hx) (fun e => by rw [hog x e] at hx; cases hx)
  have keep : ∀ x t, own x = some (p, t) → own' x = some (p, t) := fun x t hx => by rw [hoo x (hI.lt x _ hx)]; exact hx
  have hadd : i.add s = { i with mixed := i.mixed ++ [s] } := by unfold NI.add; rw [hk]; rfl
  refine ChildPost.new hp hl ho (b' := w.heap.size) (own' := own') ?_
  rw [hadd]
  refine link_of hI (kind_ne_fake s p) hB0 hp hl hext hold hoo ?_ (by simpa using hI.count p i hp) hob hnw ?_
  · intro x q hx
    rw [hown'] at hx
    simp only at hx
    split at hx
    · omega
    · split at hx
      · omega
      · split at hx
        · exact hv'lt x ‹_›
        · cases hx
  · refine ⟨d0, v', .map (some m), ?_, keep _ _ hown, ?_, ?_, ?_⟩
    · have := hnat _ _ _ _ _ hat
      rw [hk]
      simpa using this
    · have := hm0.frame (own' := own') (fun x hx => tag1 x hx) (fun x hx => keep x 1 hx)
      rw [hk]
      simpa using this
    · refine Or.inr ⟨m, _, _, rfl, keep _ _ hom, hnm, ?_, ?_⟩
      · rw [Array.toList_push]; exact hall.push _ _ _
      · intro u
        have hnone : look k es.toList = none := by
          rw [hlook k]
          simp only [childBlk, ← hk, hl]; rfl
        rw [Array.toList_push, look_push _ _ _ _ _ hnone, hk]
        by_cases e : u = k
        · subst e; simp
        · have : bl u ≠ bl k := fun h => e (bl_inj h)
          simp [e, this, hlook u]
    · refine ⟨xs0 ++ [.slice a s.length c, .pointer (some ⟨w.heap.size, 0, none⟩)], by simpa using hrow', hog', ?_⟩
      have hxl : xs0.length = i.mixed.length * 2 := hrow0.1
      have fresh : ∀ r ∈ i.mixed, kindOf r ≠ kindOf s := MixOK.fresh (w := w) (own := own) (q := (p, 3)) (v := d1) (f := fun k => childBlk B N (p ++ [k])) ⟨xs0, hrow0, hog, hel⟩ (by simp [childBlk, hl])
      intro j r hj
      by_cases hlt : j < i.mixed.length
      · have hj' : i.mixed[j]? = some r := by rwa [List.getElem?_append_left hlt] at hj
        obtain ⟨a1, c1', b1, g1, g2, g3, g4, g5⟩ := hel j r hj'
        refine ⟨a1, c1', b1, ?_, ?_, ?_, g4.out (by omega) hout, g5⟩
        · rw [List.getElem?_append_left (by omega)]; exact g1
        · rw [List.getElem?_append_left (by omega)]; exact g2
        · simp [fresh r (List.mem_of_getElem? hj')]; exact g3
      · have hje : j = i.mixed.length := by
          have := (List.getElem?_eq_some_iff.1 hj).1
          simp at this
          omega
        subst hje
        have : r = s := by simpa using hj.symm
        subst this
        refine ⟨a, c, w.heap.size, ?_, ?_, by simp, hseg.out (by omega) hout, hs2⟩
        · rw [List.getElem?_append_right (by omega), show 2 * i.mixed.length - xs0.length = 0 from by omega]; rfl
        · rw [List.getElem?_append_right (by omega), show 2 * i.mixed.length + 1 - xs0.length = 1 from by omega]; rfl

end

end Go.Proofs.Qxb6001106a
