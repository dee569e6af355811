/-
  DERIVED, BY AN AI AGENT. Seat b6001106a: what stands after k templates are inserted.
-/
import Derived.Test.Qxb6001106aTpls2
namespace Go.Proofs.Qxb6001106a
open Go.RowKit

def GoodT (T : List (List ByteArray)) : Prop := ∀ s ∈ T, Good s
theorem good_of {T : List (List ByteArray)} (h1 : ∀ j, j < T.length → T.getD j [] ≠ []) (h2 : ∀ j, j < T.length → ∀ i, i < (T.getD j []).length → NoBrace (bl ((T.getD j []).getD i ByteArray.empty))) : GoodT T := by
  intro s hs
  obtain ⟨j, hj, rfl⟩ := List.getElem_of_mem hs
  have e : T.getD j [] = T[j] := by simp [List.getD_eq_getElem?_getD, hj]
  refine ⟨by rw [← e]; exact h1 j hj, fun x hx => ?_⟩
  obtain ⟨i, hi, rfl⟩ := List.getElem_of_mem hx
  have := h2 j hj i (by rw [e]; exact hi)
  rw [e] at this
  simpa [List.getD_eq_getElem?_getD, hi] using this
theorem GoodT.ne {T : List (List ByteArray)} (h : GoodT T) : ∀ j, j < T.length → T.getD j [] ≠ [] := by
  intro j hj
  have e : T.getD j [] = T[j] := by simp [List.getD_eq_getElem?_getD, hj]
  rw [e]
  exact (h _ (List.getElem_mem hj)).1

structure Round (w8 : World) (rt : Nat) (Ts : List (List (List ByteArray))) (k : Nat) (R : Nat → Nat) (L : List (List (List ByteArray) × Nat)) (own : Own) (B : List Key → Nat) (N : Trie) (wr : World) : Prop where
  below : Below w8.heap.size w8 wr
  inv : Inv w8.heap.size wr own B N (segCount (Ts.take k))
  built : Built N L
  root : B [] = w8.heap.size
  fake : own rt = some (fakeP, 9)
  row : wr.rowIs rt 42 Ts.length (fun j => if j < k then .pointer (some ⟨R j, 0, none⟩) else .pointer none)
  len : L.length = k
  at_ : ∀ j, j < k → L[j]? = some (Ts.getD j [], R j) ∧ R j < wr.heap.size ∧ own (R j) = none ∧ wr.cell? ⟨R j, 0, none⟩ = some (.int .i64 (j + 1))

theorem Round.start (w8 : World) (Ts : List (List (List ByteArray))) : Round w8 (w8.heap.size + 1) Ts 0 (fun _ => 0) [] (put (put (fun _ => none) w8.heap.size ([], 0)) (w8.heap.size + 1) (fakeP, 9)) (fun _ => w8.heap.size) rootN ((w8.alloc emptyNode).alloc (.cells (madeCells #[.pointer none] Ts.length) 42)) := by
  have hs : (w8.alloc emptyNode).heap.size = w8.heap.size + 1 := by simp
  have h1 := (root_inv w8).beside (by simp) (.cells (madeCells #[.pointer none] Ts.length) 42)
  have hr := World.rowIs_made (w8.alloc emptyNode) (.pointer none) Ts.length 42
  rw [hs] at h1 hr
  refine ⟨((Below.refl _ _).alloc (Nat.le_refl _) _).alloc (by simp) _, by simpa [segCount] using h1, built_root, rfl, put_new _ _, ?_, rfl, fun j hj => absurd hj (Nat.not_lt_zero _)⟩
  exact hr.congr (fun i _ => by simp)

variable {w8 wr : World} {rt : Nat} {Ts : List (List (List ByteArray))} {k : Nat} {R : Nat → Nat} {L : List (List (List ByteArray) × Nat)} {own : Own} {B : List Key → Nat} {N : Trie}

/-- The route's block is made and written into the row. -/
def stored (wr : World) (rt k : Nat) (A : Obj) : World := (wr.setCell ⟨rt, k, none⟩ (.pointer (some ⟨wr.heap.size, 0, none⟩))).alloc A

theorem stored_size (wr : World) (rt k : Nat) (A : Obj) : (stored wr rt k A).heap.size = wr.heap.size + 1 := by simp [stored, World.setCell]

theorem Round.rt_ge (h : Round w8 rt Ts k R L own B N wr) : w8.heap.size ≤ rt ∧ rt < wr.heap.size := ⟨h.inv.ge _ _ h.fake, h.inv.lt _ _ h.fake⟩

theorem Round.pre_below (h : Round w8 rt Ts k R L own B N wr) (A : Obj) : Below w8.heap.size w8 (stored wr rt k A) :=
  (h.below.setCell h.rt_ge.1 _).alloc (by simpa [World.setCell] using h.below.size) _

theorem Round.pre (h : Round w8 rt Ts k R L own B N wr) (A : Obj) : Inv w8.heap.size (stored wr rt k A) own B N (segCount (Ts.take k)) :=
  (h.inv.keep h.fake k _).later ((Below.refl _ _).alloc (Nat.le_refl _) _)

theorem Round.next (h : Round w8 rt Ts k R L own B N wr) (hk : k < Ts.length) {x y z : Value} {w3 w4 : World} {own' : Own} {B' : List Key → Nat} (hg : GoodT (Ts.getD k []))
    (h3 : Below (stored wr rt k (.cells #[.int .i64 (k + 1), x, y, z] 46)).heap.size (stored wr rt k (.cells #[.int .i64 (k + 1), x, y, z] 46)) w3)
    (hI : Inv w8.heap.size w4 own' B' (insertP N [] (Ts.getD k []) wr.heap.size) (segCount (Ts.take k) + (Ts.getD k []).length)) (ho : Out w3 own w4 own') (hag : ∀ q, N q ≠ none → B' q = B q) :
    Round w8 rt Ts (k + 1) (fun j => if j = k then wr.heap.size else R j) (L ++ [(Ts.getD k [], wr.heap.size)]) own' B' (insertP N [] (Ts.getD k []) wr.heap.size) w4 := by
  have hrt := h.rt_ge
  have hs2 := stored_size wr rt k (.cells #[.int .i64 (k + 1), x, y, z] 46)
  have hs3 : wr.heap.size + 1 ≤ w3.heap.size := by have := h3.size; omega
  have hnew : own wr.heap.size = none := h.inv.own_new _ (Nat.le_refl _)
  have hI3 := (h.pre (.cells #[.int .i64 (k + 1), x, y, z] 46)).later h3
  have hb3 : Below w8.heap.size w8 w3 := (h.pre_below _).trans (h3.mono (by have := h.below.size; omega))
  have hb4 : Below w8.heap.size w3 w4 := ho.below hI3 (by have := h.below.size; omega)
  have hrow2 : (stored wr rt k (.cells #[.int .i64 (k + 1), x, y, z] 46)).rowIs rt 42 Ts.length (fun j => if j = k then .pointer (some ⟨wr.heap.size, 0, none⟩) else if j < k then .pointer (some ⟨R j, 0, none⟩) else .pointer none) := (h.row.set k _).alloc _
  have hrow3 := hrow2.of_block (h3.block rt (by omega))
  have hrow4 := hrow3.of_block (ho.fake rt (by omega) h.fake).1
  have hcnew : (stored wr rt k (.cells #[.int .i64 (k + 1), x, y, z] 46)).cell? ⟨wr.heap.size, 0, none⟩ = some (.int .i64 (k + 1)) := by
    unfold stored
    simp only [World.cell?, heap_set_alloc_new]
    rfl
  have hup : ∀ b, b < wr.heap.size + 1 → own b = none → w4.cell? ⟨b, 0, none⟩ = (stored wr rt k (.cells #[.int .i64 (k + 1), x, y, z] 46)).cell? ⟨b, 0, none⟩ ∧ own' b = none := fun b hb hob => by
    refine ⟨?_, ho.own b (by omega) hob⟩
    rw [World.cell?_of_block (w := w3) (ho.block b (by omega) hob), World.cell?_of_block (w := stored wr rt k (.cells #[.int .i64 (k + 1), x, y, z] 46)) (h3.block b (by omega))]
  refine ⟨hb3.trans hb4, ?_, built_snoc h.built _ _ hg, ?_, (ho.fake rt (by omega) h.fake).2, ?_, by simp [h.len], ?_⟩
  · rw [segCount_snoc Ts k hk]; exact hI
  · rw [hag [] h.built.root]; exact h.root
  · refine hrow4.congr (fun i _ => ?_)
    by_cases e : i = k
    · subst e; simp
    · by_cases e2 : i < k
      · simp [e, e2, Nat.lt_succ_of_lt e2]
      · simp [e, e2, show ¬ i < k + 1 by omega]
  · intro j hj
    by_cases e : j = k
    · subst e
      obtain ⟨g1, g2⟩ := hup wr.heap.size (by omega) hnew
      refine ⟨?_, ?_, ?_, ?_⟩
      · rw [List.getElem?_append_right (by rw [h.len]; exact Nat.le_refl _), h.len]; simp
      · simp only [if_true]; have := ho.size; omega
      · simp only [if_true]; exact g2
      · simp only [if_true]; rw [g1]; exact hcnew
    · obtain ⟨f1, f2, f3, f4⟩ := h.at_ j (by omega)
      obtain ⟨g1, g2⟩ := hup (R j) (by omega) f3
      simp only [if_neg e]
      refine ⟨?_, ?_, g2, ?_⟩
      · rw [List.getElem?_append_left (by rw [h.len]; omega)]; exact f1
      · have := ho.size; omega
      · rw [g1]
        unfold stored
        rw [World.cell?_of_block (w := wr) (heap_set_alloc wr _ _ _ (R j) f2 (by show R j ≠ rt; intro e2; rw [e2, h.fake] at f3; cases f3))]
        exact f4

/-- At the end: what a match is. -/
theorem Round.none_ (h : Round w8 rt Ts k R L own B N wr) (hk : k = Ts.length) (hg : ∀ j, j < Ts.length → GoodT (Ts.getD j [])) {path : List ByteArray} (hm : matchP N [] path = none) : ∀ j, j < Ts.length → tmatchP (Ts.getD j []) path = false := by
  intro j hj
  subst hk
  have hgl : ∀ T r, (T, r) ∈ L → ∀ s ∈ T, Good s := fun T r hT => by
    obtain ⟨i, hi, e⟩ := List.getElem_of_mem hT
    rw [h.len] at hi
    have := (h.at_ i hi).1
    rw [List.getElem?_eq_getElem (by rw [h.len]; exact hi), e] at this
    cases this
    exact hg i hi
  exact finds_none h.built hgl hm _ (R j) (List.mem_of_getElem? (h.at_ j hj).1)

theorem Round.some_ (h : Round w8 rt Ts k R L own B N wr) (hk : k = Ts.length) (hg : ∀ j, j < Ts.length → GoodT (Ts.getD j [])) {path : List ByteArray} {r : Nat} (hm : matchP N [] path = some r) : ∃ j, j < Ts.length ∧ R j = r ∧ tmatchP (Ts.getD j []) path = true := by
  subst hk
  have hgl : ∀ T r, (T, r) ∈ L → ∀ s ∈ T, Good s := fun T r hT => by
    obtain ⟨i, hi, e⟩ := List.getElem_of_mem hT
    rw [h.len] at hi
    have := (h.at_ i hi).1
    rw [List.getElem?_eq_getElem (by rw [h.len]; exact hi), e] at this
    cases this
    exact hg i hi
  obtain ⟨T, hT, ht⟩ := finds_some h.built hgl hm
  obtain ⟨i, hi, e⟩ := List.getElem_of_mem hT
  rw [h.len] at hi
  have := (h.at_ i hi).1
  rw [List.getElem?_eq_getElem (by rw [h.len]; exact hi), e] at this
  cases this
  exact ⟨i, hi, rfl, ht⟩

end Go.Proofs.Qxb6001106a
