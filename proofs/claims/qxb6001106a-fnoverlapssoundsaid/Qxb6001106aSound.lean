/-
  DERIVED, BY AN AI AGENT. Seat b6001106a: THE WALK of FnOverlapsSound (4), and 'Rows.FnOverlapsSoundSaid', PROVED.
-/
import Derived.Test.Qxb6001106aOpen
namespace Go.Proofs.Qxb6001106a
open Go.ChangeShapes Go.WideShapes Go.ChangeAt Go.RowKit
open Go.ChangeMaps (open_string shut_string)

theorem Cloned.open {w w' : World} {ss : List ByteArray} {e : Ending} (h : Cloned w ss e w') : ∃ a c, e = .returned (.slice a ss.length c) ∧ StrsAt w' a ss ∧ ss.length ≤ c ∧ Below w.heap.size w w' := h

set_option maxHeartbeats 1000000 in
theorem sound_any (a a' : Option Addr) (n c n' c' : Nat) (ss ss' : List ByteArray) (t : ByteArray) (w : World) (hn : n = ss.length) (hn' : n' = ss'.length) (hM : MaxOk w) (hc : StrsAt w a ss) (hc' : StrsAt w a' ss') :
    Calls Try.prog 4 #[.slice a n c, .slice a' n' c', .string t] w (AnsK true w) := by
  subst hn hn'
  go_enter Try.func4, Try.ntmps4
  go_wp2_with fail
  refine (bytes13_any a a' _ c _ c' ss ss' t w rfl rfl hc hc').mono ?_
  rintro e w1 ⟨bb, rfl, hb, rfl⟩
  cases bb with
  | false =>
    go_wp2_with fail
    go_ret
    exact AnsK.mk rfl (Below.refl _ _)
  | true =>
    obtain ⟨hz, hz', htz⟩ := hb rfl
    clear hb
    have HZ := hz.1
    have HZ' := hz'.1
    go_wp2_with fail
    refine (sizeStrs_any a _ c ss _ rfl hz hc).mono ?_
    rintro e w2 ⟨z1, rfl, g1, g2, g3, rfl⟩
    clear g3
    go_wp2_with fail
    refine (sizeStrs_any a' _ c' ss' _ rfl hz' hc').mono ?_
    rintro e w2 ⟨z2, rfl, g3, g4, g5, rfl⟩
    clear g5
    by_cases hbig : 1048576 < z1 + z2 + t.size
    · go_wp2_with fail
      go_ret
      exact AnsK.mk rfl (Below.refl _ _)
    by_cases hs0 : ss.length = 0
    · have hb0 : ((ss.length : Int) == 0) = true := by rw [beq_iff_eq]; omega
      go_wp2_with fail
      go_ret
      exact AnsK.mk rfl (Below.refl _ _)
    have hb0 : ((ss.length : Int) == 0) = false := by rw [beq_eq_false_iff_ne]; omega
    by_cases ho0 : ss'.length = 0
    · have hb1 : ((ss'.length : Int) == 0) = true := by rw [beq_iff_eq]; omega
      go_wp2_with fail
      go_ret
      exact AnsK.mk rfl (Below.refl _ _)
    have hb1 : ((ss'.length : Int) == 0) = false := by rw [beq_eq_false_iff_ne]; omega
    go_wp2_with fail
    refine (cloneStrs_any a _ c ss _ rfl (by omega) hc).mono ?_
    intro e w3 hcl
    obtain ⟨a3, c3, rfl, hs3, hc3, hb3⟩ := hcl.open
    clear hcl
    have hs4 := hc'.later hb3
    go_wp2_with fail
    refine (cloneStrs_any a' _ c' ss' _ rfl (by omega) hs4).mono ?_
    intro e wc hcl
    obtain ⟨a4, c4, rfl, hs5, hc4, hb4⟩ := hcl.open
    clear hcl
    have hs6 := hs3.later hb4
    have hMc := (hM.later hb3).later hb4
    have HB : Hid (Below w2.heap.size w2 wc) := hb3.trans (hb4.mono hb3.size)
    clear hs4 hb3 hb4 hs3 hc hc' hM
    go_wp2_with fail
    refine (segMatches_any a3 _ c3 ss t wc rfl hc3 hMc hz (by omega) (by omega) hs6).mono ?_
    rintro e w7 ⟨rfl, rfl⟩
    have HS : Hid (segMatchesP (bls ss) (bl t) = true → segMatchesP (bls ss') (bl t) = true → overlapsP (bls ss) (bls ss') = true) := fun h1 h2 => overlaps_sound h1 h2
    generalize segMatchesP (bls ss) (bl t) = m1 at *
    cases m1
    · go_wp2_with fail
      go_ret
      exact AnsK.mk rfl HB.out
    · go_wp2_with fail
      refine (segMatches_any a4 _ c4 ss' t _ rfl hc4 hMc hz' (by omega) (by omega) hs5).mono ?_
      rintro e w7 ⟨rfl, rfl⟩
      generalize segMatchesP (bls ss') (bl t) = m2 at *
      cases m2
      · go_wp2_with fail
        go_ret
        exact AnsK.mk rfl HB.out
      · go_wp2_with fail
        refine (zzOverlaps_any a3 a4 _ c3 _ c4 ss ss' _ rfl hc3 rfl hc4 hMc hz hz' (by omega) (by omega) hs6 hs5).mono ?_
        rintro e w8 ⟨rfl, hb8⟩
        rw [HS.out trivial trivial]
        go_wp2_with fail
        go_ret
        exact AnsK.mk rfl (HB.out.trans (hb8.mono HB.out.size))

set_option maxRecDepth 100000 in
theorem sound_lifted (os : Os) (started : os.Started) (H : Type) (enc : TypeId × Value → H) :
    ReturnsInHanded {} Try.checked os 4 .any (Rows.fnOverlapsSoundSpec.pre6 enc Try.prog Try.f4 Rows.fnOverlapsSoundRow.domain false) (Rows.fnOverlapsSoundSpec.post enc Try.prog Try.f4 false true false false) := by
  refine returnsInHanded_of_change_shaped (C := Try.checked) Try.own started (by kernel_rfl) Try.func4
    (ChangeSpec.witness6 (enc := enc) (C := Try.checked) false ⟨#[], #[.slice none 0 0, .slice none 0 0, .string ⟨#[]⟩], []⟩ 8 (by kernel_rfl) (by kernel_rfl) (by kernel_rfl) (by kernel_rfl)) ?_
  intro W base args ds gs before hval0 hW hcnd _ hsh _
  have hval : ∀ (j : Nat) t v, Try.f4.params[j]? = some t → args[j]? = some v → Value.okWide Try.prog W .any base t v := hval0
  have hW' := hW
  obtain ⟨p, q, hA0, hV, rfl, hfz, hnd⟩ := hW
  have hA : DataW.TrodAll enc Try.prog W 0 (fun _ => true) true Try.f4.params.toList args.toList ds p := hA0
  rw [Try.params4] at hA hval
  obtain ⟨v0, vs0, d0, ds0, p0, q0, hargs, rfl, rfl, h0, r0⟩ := trodAll_cons hA
  obtain ⟨v1, vs1, d1, ds1, p1, q1, rfl, rfl, rfl, h1, r1⟩ := trodAll_cons r0
  obtain ⟨v2, vs2, d2, ds2, p2, q2, rfl, rfl, rfl, h2, r2⟩ := trodAll_cons r1
  obtain ⟨rfl, rfl, rfl⟩ := trodAll_nil r2
  obtain rfl : args = #[v0, v1, v2] := by cases args; simp_all
  obtain ⟨rfl, rfl⟩ := trodVars_none hV
  obtain ⟨a0, len0, cap0, rfl⟩ := okWide_slice Try.underlying22 (hval 0 22 v0 rfl rfl)
  obtain ⟨a1, len1, cap1, rfl⟩ := okWide_slice Try.underlying22 (hval 1 22 v1 rfl rfl)
  obtain ⟨t, rfl, rfl, rfl, wt⟩ := open_string Try.underlying9 (hval 2 9 v2 rfl rfl) h2
  have lt0 : ∀ x ∈ p0, x.block < W.heap.size := by obtain ⟨m, hm⟩ := h0; exact DataW.trod_lt m _ _ _ hm
  have lt1 : ∀ x ∈ p1, x.block < W.heap.size := by obtain ⟨m, hm⟩ := h1; exact DataW.trod_lt m _ _ _ hm
  obtain ⟨ss, hs, e0, _⟩ := open_strsAt h0
  obtain ⟨ss', hs', e1, _⟩ := open_strsAt h1
  clear hA0 hval0
  refine (sound_any a0 a1 len0 cap0 len1 cap1 ss ss' t W e0 e1 (max_of_shaped hsh) hs hs').mono fun e W' ⟨he, bel⟩ => ?_
  subst he
  exact ⟨_, rfl, _, _, _, [], _, [], hW', trodAll_mk1 (shut_bool Try.underlying4 _), (trodAll_cons_mk (Below.trod Try.laidOut (by kernel_rfl) (of_decide_eq_true (by kernel_rfl)) h0 bel lt0) (trodAll_cons_mk (Below.trod Try.laidOut (by kernel_rfl) (of_decide_eq_true (by kernel_rfl)) h1 bel lt1) (trodAll_cons_mk (shut_string Try.underlying9 wt) trodAll_mk0))), rfl, bel.frame _, fun h => by cases h⟩

theorem sound_over : Rows.fnOverlapsSoundRow.holds Try.pinned (OpenSpec.ofChange Rows.fnOverlapsSoundSpec) :=
  OpenClaim.holds_of_wide 4 Try.f4 rfl rfl rfl rfl rfl rfl rfl ⟨rfl, rfl, rfl, rfl, rfl⟩ rfl rfl rfl rfl rfl (by kernel_rfl) Try.func4 (by kernel_rfl)
    (of_decide_eq_true (by kernel_rfl)) (by unfold Func.isWrapper; first | (rw [if_pos (by decide +kernel)]; kernel_rfl) | (rw [if_neg (by decide +kernel)]; exact ⟨rfl, rfl⟩))
    (fun os started H enc _ => sound_lifted os started H enc)

theorem fnOverlapsSound_proved : Rows.FnOverlapsSoundSaid := sound_over
#print axioms fnOverlapsSound_proved

end Go.Proofs.Qxb6001106a
