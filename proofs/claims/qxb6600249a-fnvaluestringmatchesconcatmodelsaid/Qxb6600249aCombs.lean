/-
  DERIVED, BY AN AI AGENT. Seat b6600249a: three variables that hold a value each; a node of two pieces.
-/
import Derived.Test.Qxb6600249aRows3
namespace Go.Proofs.Qxb6600249a
open Go.RowKit

/-- The three variables left, right, flat: the blocks from B on. -/
def var3 (B : Nat) : Nat → Prop := fun x => B ≤ x ∧ x < B + 3

structure V3 (w1 : World) (p q r : Value) (wr : World) : Prop where
  bel : Below w1.heap.size w1 wr
  sz : w1.heap.size + 3 ≤ wr.heap.size
  c0 : wr.heap[w1.heap.size]? = some (.cells #[p] 32 (0, 0))
  c1 : wr.heap[w1.heap.size + 1]? = some (.cells #[q] 32 (0, 0))
  c2 : wr.heap[w1.heap.size + 2]? = some (.cells #[r] 32 (0, 0))

theorem set_one {w : World} {b : Nat} {p v : Value} {t : TypeId} (h : w.heap[b]? = some (.cells #[p] t (0, 0))) : (w.setCell ⟨b, 0, none⟩ v).heap[b]? = some (.cells #[v] t (0, 0)) := by
  simp [World.setCell, Array.getElem?_modify, h]

theorem V3.start (w1 : World) (p q r : Value) : V3 w1 p q r (((w1.alloc (.cells #[p] 32)).alloc (.cells #[q] 32)).alloc (.cells #[r] 32)) := by
  have h := two_allocs w1 (.cells #[p] 32) (.cells #[q] 32)
  refine ⟨(((Below.refl _ _).alloc (Nat.le_refl _) _).alloc (by simp) _).alloc (by simp; omega) _, by simp, ?_, ?_, ?_⟩
  · rw [Below.heap_alloc _ _ _ (by simp; omega)]; exact h.1
  · rw [Below.heap_alloc _ _ _ (by simp)]; exact h.2
  · have := heap_alloc_new ((w1.alloc (.cells #[p] 32)).alloc (.cells #[q] 32)) (.cells #[r] 32)
    simpa using this

section
variable {w1 wr w' : World} {p q r v : Value}
theorem V3.later (h : V3 w1 p q r wr) (hb : Below wr.heap.size wr w') : V3 w1 p q r w' :=
  ⟨h.bel.trans (hb.mono h.bel.size), Nat.le_trans h.sz hb.size, by rw [hb.block _ (lt_of_block h.c0)]; exact h.c0, by rw [hb.block _ (lt_of_block h.c1)]; exact h.c1, by rw [hb.block _ (lt_of_block h.c2)]; exact h.c2⟩
theorem V3.set0 (h : V3 w1 p q r wr) : V3 w1 v q r (wr.setCell ⟨w1.heap.size, 0, none⟩ v) :=
  ⟨h.bel.setCell (Nat.le_refl _) _, by simpa [World.setCell] using h.sz, set_one h.c0, by rw [Below.heap_setCell _ _ _ _ (by show w1.heap.size + 1 ≠ w1.heap.size; omega)]; exact h.c1, by rw [Below.heap_setCell _ _ _ _ (by show w1.heap.size + 2 ≠ w1.heap.size; omega)]; exact h.c2⟩
theorem V3.set1 (h : V3 w1 p q r wr) : V3 w1 p v r (wr.setCell ⟨w1.heap.size + 1, 0, none⟩ v) :=
  ⟨h.bel.setCell (by show w1.heap.size ≤ w1.heap.size + 1; omega) _, by simpa [World.setCell] using h.sz, by rw [Below.heap_setCell _ _ _ _ (by show w1.heap.size ≠ w1.heap.size + 1; omega)]; exact h.c0, set_one h.c1, by rw [Below.heap_setCell _ _ _ _ (by show w1.heap.size + 2 ≠ w1.heap.size + 1; omega)]; exact h.c2⟩
theorem V3.set2 (h : V3 w1 p q r wr) : V3 w1 p q v (wr.setCell ⟨w1.heap.size + 2, 0, none⟩ v) :=
  ⟨h.bel.setCell (by show w1.heap.size ≤ w1.heap.size + 2; omega) _, by simpa [World.setCell] using h.sz, by rw [Below.heap_setCell _ _ _ _ (by show w1.heap.size ≠ w1.heap.size + 2; omega)]; exact h.c0, by rw [Below.heap_setCell _ _ _ _ (by show w1.heap.size + 1 ≠ w1.heap.size + 2; omega)]; exact h.c1, set_one h.c2⟩
theorem cell_one {b : Nat} {t : TypeId} (h : wr.heap[b]? = some (.cells #[p] t (0, 0))) : wr.cell? ⟨b, 0, none⟩ = some p := by simp [World.cell?, h]
theorem frozen_one {b : Nat} {t : TypeId} (h : wr.heap[b]? = some (.cells #[p] t (0, 0))) : wr.frozen? ⟨b, 0, none⟩ = false := by simp [World.frozen?, h]
end

/-- p is a value of text s, weight k. -/
def IsV (w : World) (G : Nat → Prop) (p : Value) (s : List UInt8) (k : Nat) : Prop := ∃ b, p = .pointer (some ⟨b, 0, none⟩) ∧ NAt w G b s k

theorem IsV.later {w w' : World} {G : Nat → Prop} {p : Value} {s : List UInt8} {k : Nat} (h : IsV w G p s k) (hb : Below w.heap.size w w') : IsV w' G p s k := by
  obtain ⟨b, e, h⟩ := h
  exact ⟨b, e, h.later hb⟩

theorem IsV.set {w : World} {B b : Nat} {p v : Value} {s : List UInt8} {k : Nat} (h : IsV w (var3 B) p s k) (hb : var3 B b) : IsV (w.setCell ⟨b, 0, none⟩ v) (var3 B) p s k := by
  obtain ⟨b', e, h⟩ := h
  exact ⟨b', e, h.keep (fun x _ hG => Below.heap_setCell _ _ _ _ (fun e => hG (by rw [e]; exact hb))) (fun _ e => Or.inl e)⟩

/-- Pieces in a row. -/
theorem PAt.of_cells {w : World} {G : Nat → Prop} {pb : Nat} (hG : ¬ G pb) : ∀ (V : List (Value × List UInt8 × Nat)) (po : Nat), (∀ j x, V[j]? = some x → w.cell? ⟨pb, po + j, none⟩ = some x.1 ∧ IsV w G x.1 x.2.1 x.2.2) →
    PAt w G pb po V.length (V.map fun x => x.2.1).flatten ((V.map fun x => x.2.2 + 1).sum)
  | [], po, _ => .nil pb po
  | x :: V, po, h => by
    obtain ⟨h1, b, h2, h3⟩ := h 0 x rfl
    rw [h2] at h1
    have ih := PAt.of_cells hG V (po + 1) (fun j y hy => by
      have := h (j + 1) y (by simpa using hy)
      rw [show po + (j + 1) = po + 1 + j by omega] at this
      exact this)
    have := PAt.cons pb po V.length b x.2.1 _ x.2.2 _ hG h1 h3 ih
    simp only [List.map_cons, List.flatten_cons, List.sum_cons, List.length_cons]
    rw [show x.2.2 + 1 + (V.map fun x => x.2.2 + 1).sum = x.2.2 + (V.map fun x => x.2.2 + 1).sum + 1 by omega]
    exact this

theorem pair_node {w2 w6 : World} {G : Nat → Prop} {pb b6 sz : Nat} {p1 p2 : Value} {s1 s2 : List UInt8} {k1 k2 : Nat} (hpb : w2.heap[pb]? = some (.cells #[p1, p2] 32 (0, 0))) (h1 : IsV w2 G p1 s1 k1) (h2 : IsV w2 G p2 s2 k2) (hb : Below w2.heap.size w2 w6)
    (h6 : w6.heap[b6]? = some (.cells #[.string ⟨#[]⟩, .slice (some ⟨pb, 0, none⟩) 2 2, .int .i64 sz, .bool false, .slice none 0 0] 55 (0, 0))) (hG6 : ¬ G b6) (hGp : ¬ G pb) (hsz : sz ≤ 281474976710656) :
    IsV w6 G (.pointer (some ⟨b6, 0, none⟩)) (s1 ++ s2) (k1 + k2 + 4) := by
  have hp6 : w6.heap[pb]? = some (.cells #[p1, p2] 32 (0, 0)) := by rw [hb.block _ (lt_of_block hpb)]; exact hpb
  have hP := PAt.of_cells (w := w6) hGp [(p1, s1, k1), (p2, s2, k2)] 0 (fun j x hx => by
    match j with
    | 0 =>
      simp at hx; subst hx
      exact ⟨by simp [World.cell?, hp6], h1.later hb⟩
    | 1 =>
      simp at hx; subst hx
      exact ⟨by simp [World.cell?, hp6], h2.later hb⟩
    | j + 2 => simp at hx)
  simp at hP
  refine ⟨b6, rfl, ?_⟩
  have := NAt.node b6 ⟨#[]⟩ pb 0 2 2 sz (.bool false) (.slice none 0 0) (s1 ++ s2) _ h6 hG6 (Nat.le_refl _) hsz hP
  rw [show k1 + k2 + 4 = k1 + 1 + (k2 + 1) + 2 by omega]
  exact this

theorem after_pair {w1 wr w6 : World} {p q r : Value} {ob : Obj} (h : V3 w1 p q r wr) (hb : Below (wr.alloc ob).drew.heap.size (wr.alloc ob).drew w6) : V3 w1 p q r w6 ∧ Below wr.heap.size wr w6 := by
  have h1 : Below wr.heap.size wr (wr.alloc ob).drew := ((Below.refl _ _).alloc (Nat.le_refl _) _).drew
  have h2 : Below wr.heap.size wr w6 := h1.trans (hb.mono h1.size)
  exact ⟨h.later h2, h2⟩

theorem pair_round {w1 wr w6 : World} {p q r p1 p2 : Value} {s1 s2 : List UInt8} {k1 k2 b6 sz : Nat} (hV : V3 w1 p q r wr) (h1 : IsV wr (var3 w1.heap.size) p1 s1 k1) (h2 : IsV wr (var3 w1.heap.size) p2 s2 k2)
    (hb6 : (wr.alloc (.cells #[p1, p2] 32)).drew.heap.size ≤ b6) (hblk6 : w6.heap[b6]? = some (.cells #[.string ⟨#[]⟩, .slice (some ⟨wr.heap.size, 0, none⟩) 2 2, .int .i64 sz, .bool false, .slice none 0 0] 55 (0, 0)))
    (hbel6 : Below (wr.alloc (.cells #[p1, p2] 32)).drew.heap.size (wr.alloc (.cells #[p1, p2] 32)).drew w6) (hsz : sz ≤ 281474976710656) : IsV w6 (var3 w1.heap.size) (.pointer (some ⟨b6, 0, none⟩)) (s1 ++ s2) (k1 + k2 + 4) := by
  have hX : Below wr.heap.size wr (wr.alloc (.cells #[p1, p2] 32)).drew := ((Below.refl _ _).alloc (Nat.le_refl _) _).drew
  have hXs : (wr.alloc (.cells #[p1, p2] 32)).drew.heap.size = wr.heap.size + 1 := by show (wr.alloc (.cells #[p1, p2] 32)).heap.size = _; simp
  have hs := hV.sz
  rw [hXs] at hb6
  have hpb : (wr.alloc (.cells #[p1, p2] 32)).drew.heap[wr.heap.size]? = some (.cells #[p1, p2] 32 (0, 0)) := heap_alloc_new wr _
  exact pair_node hpb (h1.later hX) (h2.later hX) hbel6 hblk6 (fun e => by unfold var3 at e; omega) (fun e => by unfold var3 at e; omega) hsz

theorem Leaf.isV {w : World} {G : Nat → Prop} {x : Lf} (h : Leaf w x) (hG : ¬ G x.1) : IsV w G x.ptr (bl x.2) 1 := by
  obtain ⟨c2, c3, c4, e⟩ := h
  exact ⟨x.1, rfl, .leaf x.1 x.2 c2 c3 c4 e hG⟩

theorem Leaf.later {w w' : World} {x : Lf} (h : Leaf w x) (hb : Below w.heap.size w w') : Leaf w' x := by
  obtain ⟨c2, c3, c4, e⟩ := h
  exact ⟨c2, c3, c4, by rw [hb.block _ (lt_of_block e)]; exact e⟩
theorem Leaf.lt {w : World} {x : Lf} (h : Leaf w x) : x.1 < w.heap.size := by
  obtain ⟨c2, c3, c4, e⟩ := h
  exact lt_of_block e

theorem run_make32 (n : Nat) (hn : n ≤ 1073741824) (w : World) :
    (Instr.makeSlice 28 (.int .i64 (n : Int)) (.int .i64 (n : Int))).run Try.prog w = .ok (.slice (some ⟨w.heap.size, 0, none⟩) n n) (w.alloc (.cells (madeCells #[.pointer none] n) 32)) := by
  have h0 : (Try.prog.info? 32).map (fun i => (i.zero, i.size, i.bytes)) = some (some (.agg #[.pointer none]), 1, 8) := by kernel_rfl
  obtain ⟨i, hi, hzz⟩ := Option.map_eq_some_iff.1 h0
  simp only [Prod.mk.injEq] at hzz
  obtain ⟨hz, hs, hb⟩ := hzz
  have hb' : (i.bytes : Int) * (n : Int) ≤ 281474976710656 := by rw [hb]; omega
  have hr := run_make (P := Try.prog) w 28 32 i (.agg #[.pointer none]) Try.underlying28 hi hz .i64 .i64 n n (by omega) (Int.le_refl _) hb' (by omega)
  have hzc : Value.cells (.agg #[.pointer none]) = #[.pointer none] := by rfl
  simp only [Int.toNat_natCast, hs, Nat.mul_one, hzc] at hr
  exact hr

theorem txt_take (L : List Lf) (k : Nat) (h : k < L.length) : (L.getD k (0, ByteArray.empty)) ∈ L ∧ txt (L.take (k + 1)) = txt (L.take k) ++ bl (L.getD k (0, ByteArray.empty)).2 ∧ txt (L.drop k) = bl (L.getD k (0, ByteArray.empty)).2 ++ txt (L.drop (k + 1)) := by
  have e : L.getD k (0, ByteArray.empty) = L[k] := by simp [List.getD_eq_getElem?_getD, h]
  rw [e]
  refine ⟨List.getElem_mem h, ?_, ?_⟩
  · rw [List.take_succ_eq_append_getElem h, txt_snoc]
  · conv => lhs; rw [List.drop_eq_getElem_cons h]
    unfold txt
    rw [List.map_cons, List.flatten_cons]

theorem txt_split (L : List Lf) (k : Nat) : (txt (L.take k)).length + (txt (L.drop k)).length = (txt L).length := by
  rw [← List.length_append]
  congr 1
  unfold txt
  rw [← List.flatten_append, ← List.map_append, List.take_append_drop]

theorem flat_sum (L : List Lf) : ((L.map fun x => (x.ptr, bl x.2, 1)).map fun x : Value × List UInt8 × Nat => x.2.2 + 1).sum = 2 * L.length := by
  induction L with
  | nil => rfl
  | cons x L ih => simp only [List.map_cons, List.sum_cons, List.length_cons, ih]; omega

theorem flat_node {wr w6 : World} {G : Nat → Prop} {pb b6 sz : Nat} {L : List Lf} (hrow : wr.rowIs pb 32 L.length (fun j => Lf.ptr (L.getD j (0, ByteArray.empty)))) (hL : ∀ x ∈ L, IsV wr G x.ptr (bl x.2) 1) (hb : Below wr.heap.size wr w6)
    (h6 : w6.heap[b6]? = some (.cells #[.string ⟨#[]⟩, .slice (some ⟨pb, 0, none⟩) L.length L.length, .int .i64 sz, .bool false, .slice none 0 0] 55 (0, 0))) (hG6 : ¬ G b6) (hGp : ¬ G pb) (hsz : sz ≤ 281474976710656) :
    IsV w6 G (.pointer (some ⟨b6, 0, none⟩)) (txt L) (2 * L.length + 2) := by
  have hrow6 := hrow.of_block (hb.block pb hrow.lt)
  have hP := PAt.of_cells (w := w6) hGp (L.map fun x => (x.ptr, bl x.2, 1)) 0 (fun j x hx => by
    rw [List.getElem?_map] at hx
    obtain ⟨y, hy, rfl⟩ := Option.map_eq_some_iff.1 hx
    have hj : j < L.length := (List.getElem?_eq_some_iff.1 hy).1
    have hy2 : L.getD j (0, ByteArray.empty) = y := by rw [List.getD_eq_getElem?_getD, hy]; rfl
    refine ⟨?_, (hL y (List.mem_of_getElem? hy)).later hb⟩
    rw [Nat.zero_add, hrow6.cell hj, hy2])
  rw [flat_sum, List.length_map] at hP
  have ht : ((L.map fun x => (x.ptr, bl x.2, 1)).map fun x : Value × List UInt8 × Nat => x.2.1).flatten = txt L := by
    simp [txt, Function.comp_def]
  rw [ht] at hP
  exact ⟨b6, rfl, .node b6 ⟨#[]⟩ pb 0 L.length L.length sz (.bool false) (.slice none 0 0) (txt L) _ h6 hG6 (Nat.le_refl _) hsz hP⟩

end Go.Proofs.Qxb6600249a
