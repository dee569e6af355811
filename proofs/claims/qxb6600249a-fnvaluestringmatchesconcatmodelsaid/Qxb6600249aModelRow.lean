/-
  DERIVED, BY AN AI AGENT. Seat b6600249a: 'Rows.FnValueStringMatchesConcatModelSaid', PROVED.
-/
import Derived.Test.Qxb6600249aOpen
import Derived.Test.Qxb6600249aModel5
namespace Go.Proofs.Qxb6600249a
open Go.ChangeShapes Go.WideShapes Go.ChangeAt Go.RowKit

theorem Try.cells5 : Try.prog.cellsOf 5 = 1 := by kernel_rfl

theorem bytesAt_of_cells {W : World} {x : Addr} {bs : List UInt8} (hcell : ∀ i, i < bs.length → W.cell? (x.add i) = some (.int .u8 (bs.getD i 0).toNat)) : BytesAt W (some x) bs := by
  intro i hi
  obtain ⟨b, off, spot⟩ := x
  have hspot : spot = none := by simpa [Addr.add] using World.cell?_spot (hcell 0 (by omega))
  subst hspot
  have h := hcell i hi
  rw [add_plain] at h
  exact ⟨b, off, rfl, World.block_lt_of_cell? W _ h, h⟩

theorem open_bytesAt {H : Type} {enc : TypeId × Value → H} {W : World} {a : Option Addr} {len cap : Nat} {d : DataW H} {ps : List MemPlace} (h : DataW.Trod enc Try.prog W 0 (fun _ => true) true 23 (.slice a len cap) d ps) :
    ∃ bs, BytesAt W a bs ∧ len = bs.length := by
  obtain ⟨fuel, hf⟩ := h
  rcases open_ints Try.underlying23 Try.underlying5 Try.cells5 hf with ⟨hcs, _⟩ | ⟨x, l, c, zs, hcs, _, hl, hm, hz, _, hcell, hwz⟩
  · simp [Value.cells] at hcs
    obtain ⟨rfl, rfl, rfl⟩ := hcs
    exact ⟨[], fun _ hi => absurd hi (Nat.not_lt_zero _), rfl⟩
  · simp [Value.cells] at hcs
    obtain ⟨rfl, rfl, rfl⟩ := hcs
    simp only [if_true] at hz
    have hlen : ((zs.take len).map fun n => UInt8.ofNat n.toNat).length = len := by simp; omega
    refine ⟨(zs.take len).map fun n => UInt8.ofNat n.toNat, bytesAt_of_cells (fun i hi => ?_), hlen.symm⟩
    rw [hlen] at hi
    rw [hcell i (by omega)]
    have hb := range_u8 hwz i
    have e : zs[i]? = some (zs[i]'(by omega)) := List.getElem?_eq_getElem (by omega)
    have e2 : zs.getD i 0 = zs[i]'(by omega) := by rw [List.getD_eq_getElem?_getD, e]; rfl
    rw [e, Option.getD_some] at hb
    rw [e2]
    rw [List.getD_eq_getElem?_getD, List.getElem?_map, List.getElem?_take_of_lt hi, e]
    simp only [Option.map_some, Option.getD_some, UInt8.toNat_ofNat']
    congr 2
    omega

set_option maxRecDepth 100000 in
theorem model_lifted (os : Os) (started : os.Started) (H : Type) (enc : TypeId × Value → H) :
    ReturnsInHanded {} Try.checked os 3 .any (Rows.fnValueStringMatchesConcatModelSpec.pre6 enc Try.prog Try.f3 Rows.fnValueStringMatchesConcatModelRow.domain false) (Rows.fnValueStringMatchesConcatModelSpec.post enc Try.prog Try.f3 false true false false) := by
  refine returnsInHanded_of_change (C := Try.checked) Try.own started (by kernel_rfl) Try.func3
    (ChangeSpec.witness6 (enc := enc) (C := Try.checked) false ⟨#[], #[.slice none 0 0, .slice none 0 0], []⟩ 8 (by kernel_rfl) (by kernel_rfl) (by kernel_rfl) (by kernel_rfl)) ?_
  intro W base args ds gs before hval0 hW hcnd _
  have hval : ∀ (j : Nat) t v, Try.f3.params[j]? = some t → args[j]? = some v → Value.okWide Try.prog W .any base t v := hval0
  have hW' := hW
  obtain ⟨p, q, hA0, hV, rfl, hfz, hnd⟩ := hW
  have hA : DataW.TrodAll enc Try.prog W 0 (fun _ => true) true Try.f3.params.toList args.toList ds p := hA0
  rw [Try.params3] at hA hval
  obtain ⟨v0, vs0, d0, ds0, p0, q0, hargs, rfl, rfl, h0, r0⟩ := trodAll_cons hA
  obtain ⟨v1, vs1, d1, ds1, p1, q1, rfl, rfl, rfl, h1, r1⟩ := trodAll_cons r0
  obtain ⟨rfl, rfl, rfl⟩ := trodAll_nil r1
  obtain rfl : args = #[v0, v1] := by cases args; simp_all
  obtain ⟨rfl, rfl⟩ := trodVars_none hV
  obtain ⟨a0, len0, cap0, rfl⟩ := okWide_slice Try.underlying22 (hval 0 22 v0 rfl rfl)
  obtain ⟨a1, len1, cap1, rfl⟩ := okWide_slice Try.underlying23 (hval 1 23 v1 rfl rfl)
  have lt0 : ∀ x ∈ p0, x.block < W.heap.size := by obtain ⟨m, hm⟩ := h0; exact DataW.trod_lt m _ _ _ hm
  have lt1 : ∀ x ∈ p1, x.block < W.heap.size := by obtain ⟨m, hm⟩ := h1; exact DataW.trod_lt m _ _ _ hm
  obtain ⟨ss, hs, e0, _⟩ := open_strsAt h0
  obtain ⟨bs, hs', e1⟩ := open_bytesAt h1
  clear hA0 hval0
  refine (model_any a0 a1 len0 cap0 len1 cap1 ss bs W e0 e1 hs hs').mono fun e W' ⟨he, bel⟩ => ?_
  subst he
  exact ⟨_, rfl, _, _, _, [], _, [], hW', trodAll_mk1 (shut_bool Try.underlying4 _), (trodAll_cons_mk (Below.trod Try.laidOut (by kernel_rfl) (of_decide_eq_true (by kernel_rfl)) h0 bel lt0) (trodAll_cons_mk (Below.trod Try.laidOut (by kernel_rfl) (of_decide_eq_true (by kernel_rfl)) h1 bel lt1) trodAll_mk0)), rfl, bel.frame _, fun h => by cases h⟩

theorem model_over : Rows.fnValueStringMatchesConcatModelRow.holds Try.pinned (OpenSpec.ofChange Rows.fnValueStringMatchesConcatModelSpec) :=
  OpenClaim.holds_of_wide 3 Try.f3 rfl rfl rfl rfl rfl rfl rfl ⟨rfl, rfl, rfl, rfl, rfl⟩ rfl rfl rfl rfl rfl (by kernel_rfl) Try.func3 (by kernel_rfl)
    (of_decide_eq_true (by kernel_rfl)) (by unfold Func.isWrapper; first | (rw [if_pos (by decide +kernel)]; kernel_rfl) | (rw [if_neg (by decide +kernel)]; exact ⟨rfl, rfl⟩))
    (fun os started H enc _ => model_lifted os started H enc)

theorem fnValueStringMatchesConcatModel_proved : Rows.FnValueStringMatchesConcatModelSaid := model_over
#print axioms fnValueStringMatchesConcatModel_proved

end Go.Proofs.Qxb6600249a
