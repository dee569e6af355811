/-
  DERIVED, BY AN AI AGENT. Seat b6001106a: 'Rows.FnMatchFindsExactlyTheMatchingTemplatesSaid', PROVED.
-/
import Derived.Test.Qxb6001106aOpen2
import Derived.Test.Qxb6001106aFinds7
namespace Go.Proofs.Qxb6001106a
open Go.ChangeShapes Go.WideShapes Go.ChangeAt Go.RowKit Go.Deep

theorem Try.cells29 : Try.prog.cellsOf 29 = 1 := by kernel_rfl

theorem segs_of_trod {H : Type} {enc : TypeId × Value → H} {W : World} {fuel : Nat} {v : Value} {x : DataW H × List MemPlace} (h : DataW.trod enc Try.prog W 0 (fun _ => true) true fuel 29 [v] = some x) :
    ∃ a T c, v = .slice a (List.length T) c ∧ SegsAt W noOwn a T ∧ T.length ≤ c := by
  rcases open_slice1 Try.underlying29 Try.cells22 h with ⟨hcs, _⟩ | ⟨x, l, c, m, n, V, D, Pl, hcs, hb, hl, hm, hmm, _, hx⟩
  · cases hcs
    exact ⟨none, [], 0, rfl, fun j hj => absurd hj (Nat.not_lt_zero _), Nat.le_refl _⟩
  · cases hcs
    simp only [if_true] at hmm
    obtain ⟨T, hT, hs⟩ := segs_of_cells (W := W) (x := x) (len := l) (fun i hi => by
      obtain ⟨h1, h2⟩ := hx i (by omega)
      exact ⟨_, h1, strs_of_trod h2⟩)
    exact ⟨some x, T, c, by rw [hT], hs, by omega⟩

theorem tpls_of_cells {W : World} {x : Addr} {len : Nat} (h : ∀ i, i < len → ∃ v, W.cell? (x.add i) = some v ∧ ∃ a T c, v = .slice a (List.length T) c ∧ SegsAt W noOwn a T ∧ T.length ≤ c) : ∃ Ts, List.length Ts = len ∧ TplsAt W noOwn (some x) Ts := by
  have key : ∀ n, n ≤ len → ∃ T : List (List (List ByteArray)), T.length = n ∧ ∀ j, j < n → ∃ a c, W.cell? (x.add j) = some (.slice a (T.getD j []).length c) ∧ SegsAt W noOwn a (T.getD j []) ∧ (T.getD j []).length ≤ c := by
    intro n
    induction n with
    | zero => exact fun _ => ⟨[], rfl, fun j hj => absurd hj (Nat.not_lt_zero _)⟩
    | succ n ih =>
      intro hn
      obtain ⟨T, hT, hj⟩ := ih (by omega)
      obtain ⟨v, h1, a, ss, c, rfl, h2, h3⟩ := h n (by omega)
      refine ⟨T ++ [ss], by simp [hT], fun j hlt => ?_⟩
      by_cases e : j = n
      · subst e
        have : (T ++ [ss]).getD j [] = ss := by simp [List.getD_eq_getElem?_getD, ← hT]
        rw [this]
        exact ⟨a, c, h1, h2, h3⟩
      · have : (T ++ [ss]).getD j [] = T.getD j [] := by
          simp only [List.getD_eq_getElem?_getD]
          rw [List.getElem?_append_left (by omega)]
        rw [this]
        exact hj j (by omega)
  obtain ⟨T, hT, hj⟩ := key len (Nat.le_refl _)
  refine ⟨T, hT, fun j hlt => ?_⟩
  obtain ⟨a, c, h1, h2, h3⟩ := hj j (by omega)
  obtain ⟨b, off, spot⟩ := x
  have hspot : spot = none := by
    obtain ⟨a0, c0, h0, _⟩ := hj 0 (by omega)
    simpa [Addr.add] using World.cell?_spot h0
  subst hspot
  rw [add_plain] at h1
  exact ⟨b, off, a, c, rfl, World.block_lt_of_cell? W _ h1, rfl, h1, h2, h3⟩

theorem open_tplsAt {H : Type} {enc : TypeId × Value → H} {W : World} {a : Option Addr} {len cap : Nat} {d : DataW H} {ps : List MemPlace} (h : DataW.Trod enc Try.prog W 0 (fun _ => true) true 37 (.slice a len cap) d ps) :
    ∃ Ts, TplsAt W noOwn a Ts ∧ len = Ts.length := by
  obtain ⟨fuel, hf⟩ := h
  rcases open_slice1 Try.underlying37 Try.cells29 hf with ⟨hcs, _⟩ | ⟨x, l, c, m, n, V, D, Pl, hcs, hb, hl, hm, hmm, _, hx⟩
  · simp [Value.cells] at hcs
    obtain ⟨rfl, rfl, rfl⟩ := hcs
    exact ⟨[], fun j hj => absurd hj (Nat.not_lt_zero _), rfl⟩
  · simp [Value.cells] at hcs
    obtain ⟨rfl, rfl, rfl⟩ := hcs
    simp only [if_true] at hmm
    obtain ⟨T, hT, hs⟩ := tpls_of_cells (W := W) (x := x) (len := len) (fun i hi => by
      obtain ⟨h1, h2⟩ := hx i (by omega)
      exact ⟨_, h1, segs_of_trod h2⟩)
    exact ⟨T, hs, hT.symm⟩

set_option maxRecDepth 100000 in
theorem finds_lifted (os : Os) (started : os.Started) (H : Type) (enc : TypeId × Value → H) :
    ReturnsInHanded {} Try.checked os 7 .any (Rows.fnMatchFindsExactlyTheMatchingTemplatesSpec.pre6 enc Try.prog Try.f7 Rows.fnMatchFindsExactlyTheMatchingTemplatesRow.domain false) (Rows.fnMatchFindsExactlyTheMatchingTemplatesSpec.post enc Try.prog Try.f7 false true false false) := by
  refine returnsInHanded_of_change_shaped (C := Try.checked) Try.own started (by kernel_rfl) Try.func7
    (ChangeSpec.witness6 (enc := enc) (C := Try.checked) false ⟨#[], #[.slice none 0 0, .slice none 0 0], []⟩ 8 (by kernel_rfl) (by kernel_rfl) (by kernel_rfl) (by kernel_rfl)) ?_
  intro W base args ds gs before hval0 hW hcnd _ hsh _
  have hval : ∀ (j : Nat) t v, Try.f7.params[j]? = some t → args[j]? = some v → Value.okWide Try.prog W .any base t v := hval0
  have hW' := hW
  obtain ⟨p, q, hA0, hV, rfl, hfz, hnd⟩ := hW
  have hA : DataW.TrodAll enc Try.prog W 0 (fun _ => true) true Try.f7.params.toList args.toList ds p := hA0
  rw [Try.params7] at hA hval
  obtain ⟨v0, vs0, d0, ds0, p0, q0, hargs, rfl, rfl, h0, r0⟩ := trodAll_cons hA
  obtain ⟨v1, vs1, d1, ds1, p1, q1, rfl, rfl, rfl, h1, r1⟩ := trodAll_cons r0
  obtain ⟨rfl, rfl, rfl⟩ := trodAll_nil r1
  obtain rfl : args = #[v0, v1] := by cases args; simp_all
  obtain ⟨rfl, rfl⟩ := trodVars_none hV
  obtain ⟨a0, len0, cap0, rfl⟩ := okWide_slice Try.underlying37 (hval 0 37 v0 rfl rfl)
  obtain ⟨a1, len1, cap1, rfl⟩ := okWide_slice Try.underlying22 (hval 1 22 v1 rfl rfl)
  have lt0 : ∀ x ∈ p0, x.block < W.heap.size := by obtain ⟨m, hm⟩ := h0; exact DataW.trod_lt m _ _ _ hm
  have lt1 : ∀ x ∈ p1, x.block < W.heap.size := by obtain ⟨m, hm⟩ := h1; exact DataW.trod_lt m _ _ _ hm
  obtain ⟨Ts, hT, e0⟩ := open_tplsAt h0
  obtain ⟨ss, hs, e1, _⟩ := open_strsAt h1
  clear hA0 hval0
  refine (finds_any a0 a1 len0 cap0 len1 cap1 Ts ss W e0 e1 (max_of_shaped hsh) hT hs).mono fun e W' ⟨he, bel⟩ => ?_
  subst he
  exact ⟨_, rfl, _, _, _, [], _, [], hW', trodAll_mk1 (shut_bool Try.underlying4 _), (trodAll_cons_mk (Below.trod Try.laidOut (by kernel_rfl) (of_decide_eq_true (by kernel_rfl)) h0 bel lt0) (trodAll_cons_mk (Below.trod Try.laidOut (by kernel_rfl) (of_decide_eq_true (by kernel_rfl)) h1 bel lt1) trodAll_mk0)), rfl, bel.frame _, fun h => by cases h⟩

theorem finds_over : Rows.fnMatchFindsExactlyTheMatchingTemplatesRow.holds Try.pinned (OpenSpec.ofChange Rows.fnMatchFindsExactlyTheMatchingTemplatesSpec) :=
  OpenClaim.holds_of_wide 7 Try.f7 rfl rfl rfl rfl rfl rfl rfl ⟨rfl, rfl, rfl, rfl, rfl⟩ rfl rfl rfl rfl rfl (by kernel_rfl) Try.func7 (by kernel_rfl)
    (of_decide_eq_true (by kernel_rfl)) (by unfold Func.isWrapper; first | (rw [if_pos (by decide +kernel)]; kernel_rfl) | (rw [if_neg (by decide +kernel)]; exact ⟨rfl, rfl⟩))
    (fun os started H enc _ => finds_lifted os started H enc)

theorem fnMatchFindsExactlyTheMatchingTemplates_proved : Rows.FnMatchFindsExactlyTheMatchingTemplatesSaid := finds_over
#print axioms fnMatchFindsExactlyTheMatchingTemplates_proved

end Go.Proofs.Qxb6001106a
