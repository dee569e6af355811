/-
  DERIVED, BY AN AI AGENT. Seat b6001106a: THE WALKS of (segment).param (42), (segment).key (43), (*node).child (35), ZZChild (23), ZZSetRoute (36), ZZNewNode (22).
-/
import Derived.Test.Qxb6001106aSteps
import Derived.Test.Qxb6001106aOver
import Derived.Test.Qxb6001106aShelfJoin
import Derived.Deep.DeepCutAuto
import Derived.Deep.Light
namespace Go.Proofs.Qxb6001106a
open Go.RowKit
open Go.ChangeMaps (setBlock)

theorem bl_nil_iff (s : ByteArray) : bl s = [] ↔ s.toList.isEmpty = true := by rw [isEmpty_bl]
theorem bls_two (ss : List ByteArray) (h : ss.length = 2) : bls ss = [bl (ss.getD 0 ByteArray.empty), bl (ss.getD 1 ByteArray.empty)] := by
  match ss, h with
  | [x, y], _ => rfl

theorem param_yes (b o n c : Nat) (ss : List ByteArray) (w : World) (hn : n = ss.length) (hc : RowAt w b o ss) (hp : bls ss = [[], []]) :
    Calls Try.prog 42 #[.slice (some ⟨b, o, none⟩) n c] w fun e w' => e = .returned (.bool true) ∧ w' = w := by
  have h2 : ss.length = 2 := by rw [← bls_length, hp]; rfl
  rw [bls_two ss h2] at hp
  simp only [List.cons.injEq, and_true] at hp
  have g0 := hc 0 (by omega)
  have g1 := hc 1 (by omega)
  rw [Nat.add_zero] at g0
  rw [hn, h2]
  generalize ss.getD 0 ByteArray.empty = s0 at *
  generalize ss.getD 1 ByteArray.empty = s1 at *
  have e0 := (bl_nil_iff s0).1 hp.1
  have e1 := (bl_nil_iff s1).1 hp.2
  clear hc hp hn h2
  go_enter Try.func42, Try.ntmps42
  go_wp2
  go_ret
  exact ⟨rfl, rfl⟩

theorem param_no (b o n c : Nat) (ss : List ByteArray) (w : World) (hn : n = ss.length) (hc : RowAt w b o ss) (hp : bls ss ≠ [[], []]) :
    Calls Try.prog 42 #[.slice (some ⟨b, o, none⟩) n c] w fun e w' => e = .returned (.bool false) ∧ w' = w := by
  by_cases h2 : ss.length = 2
  · rw [bls_two ss h2] at hp
    have g0 := hc 0 (by omega)
    have g1 := hc 1 (by omega)
    rw [Nat.add_zero] at g0
    rw [hn, h2]
    generalize ss.getD 0 ByteArray.empty = s0 at *
    generalize ss.getD 1 ByteArray.empty = s1 at *
    cases e0 : s0.toList.isEmpty with
    | false =>
      clear hc hp hn h2
      go_enter Try.func42, Try.ntmps42
      go_wp2
      go_ret
      exact ⟨rfl, rfl⟩
    | true =>
      have e1 : s1.toList.isEmpty = false := by
        cases e1 : s1.toList.isEmpty with
        | false => rfl
        | true => exact absurd (by rw [(bl_nil_iff s0).2 e0, (bl_nil_iff s1).2 e1]) hp
      clear hc hp hn h2
      go_enter Try.func42, Try.ntmps42
      go_wp2
      go_ret
      exact ⟨rfl, rfl⟩
  · have hne : ((n : Int) == 2) = false := by rw [beq_eq_false_iff_ne]; omega
    clear hc hp hn h2
    go_enter Try.func42, Try.ntmps42
    go_wp2
    go_ret
    exact ⟨rfl, rfl⟩

/-- The segment's key is short. -/
theorem sum_le : ∀ (l : List Nat) (b : Nat), (∀ x ∈ l, x ≤ b) → l.sum ≤ l.length * b
  | [], _, _ => by simp
  | x :: r, b, h => by
    have h1 := h x (by simp)
    have h2 := sum_le r b (fun y hy => h y (by simp [hy]))
    rw [List.sum_cons, List.length_cons, Nat.add_mul]
    omega
theorem join_len_le (ss : List ByteArray) (hz : Sz ss) : (keyOf ss).length ≤ 140737488355328 := by
  obtain ⟨hl, hsz⟩ := hz
  cases ss with
  | nil => simp [keyOf, bls, Lib.join_nil]
  | cons x r =>
    have e := Lib.join_length (bl x) (r.map bl) [123, 125]
    have hk : keyOf (x :: r) = Lib.join (bl x :: r.map bl) [123, 125] := rfl
    rw [hk, e]
    have hs : Lib.lens (bl x :: r.map bl) ≤ (x :: r).length * 1048576 := by
      unfold Lib.lens
      have := sum_le ((bl x :: r.map bl).map List.length) 1048576 (by
        intro y hy
        simp only [List.map_cons, List.map_map, List.mem_cons, List.mem_map, Function.comp] at hy
        rcases hy with rfl | ⟨z, hz, rfl⟩
        · rw [bl_length]; simpa using hsz 0
        · rw [bl_length]
          obtain ⟨j, hj⟩ := List.getElem?_of_mem hz
          have := hsz (j + 1)
          simpa [List.getD_eq_getElem?_getD, hj] using this)
      simpa using this
    simp only [List.length_map, List.length_cons, List.length_nil] at *
    omega

theorem key_any (b o n c : Nat) (ss : List ByteArray) (w : World) (hn : n = ss.length) (hnc : ss.length ≤ c) (hz : Sz ss) (hb : b < w.heap.size) (hc : RowAt w b o ss) :
    Calls Try.prog 43 #[.slice (some ⟨b, o, none⟩) n c] w fun e w' => (∃ k : ByteArray, e = .returned (.string k) ∧ bl k = keyOf ss) ∧ Below w.heap.size w w' := by
  subst hn
  have hl := hz.1
  have hj := join_len_le ss hz
  go_enter Try.func43, Try.ntmps43
  go_wp2_with fail
  refine (Try.strings_Join b o c ss ⟨#[123, 125]⟩ w ?_ hb (by omega) hnc hj).mono ?_
  · intro j x hx
    have hlt : j < ss.length := (List.getElem?_eq_some_iff.1 hx).1
    rw [hc j hlt, List.getD_eq_getElem?_getD, hx]; rfl
  rintro e w' ⟨rfl, hbw⟩
  go_wp2_with fail
  go_ret
  exact ⟨⟨_, rfl, rfl⟩, hbw⟩

theorem kind_param {ss : List ByteArray} (h : bls ss = [[], []]) : kindOf ss = (0, []) := by unfold kindOf; rw [if_pos h]
theorem kind_lit {ss : List ByteArray} (h : ss.length = 1) : kindOf ss = (1, bl (ss.getD 0 ByteArray.empty)) := by
  unfold kindOf
  rw [if_neg (fun e => by have := congrArg List.length e; rw [bls_length] at this; simp at this; omega), if_pos h, bls_first ss (by omega)]
theorem kind_mixed {ss : List ByteArray} (h : bls ss ≠ [[], []]) (h1 : ss.length ≠ 1) : kindOf ss = (2, keyOf ss) := by unfold kindOf; rw [if_neg h, if_neg h1]

theorem childBlk_some {B : List Key → Nat} {N : Trie} {q : List Key} {b : Nat} (h : childBlk B N q = some b) : B q = b ∧ ∃ j, N q = some j := by
  unfold childBlk at h
  cases e : N q with
  | none => rw [e] at h; cases h
  | some j => rw [e] at h; exact ⟨Option.some.inj h, j, rfl⟩
theorem childBlk_none {B : List Key → Nat} {N : Trie} {q : List Key} (h : childBlk B N q = none) : N q = none := by
  unfold childBlk at h
  cases e : N q with
  | none => rfl
  | some j => rw [e] at h; cases h

set_option maxHeartbeats 1000000 in
theorem child_param (B0 : Nat) (w : World) (own : Own) (B : List Key → Nat) (N : Trie) (cnt : Nat) (p : List Key) (i : NI) (hI : Inv B0 w own B N cnt) (hB0 : B0 ≤ w.heap.size) (hp : N p = some i) (bs os n c : Nat) (ss : List ByteArray)
    (hn : n = ss.length) (hc : RowAt w bs os ss) (hpar : bls ss = [[], []]) :
    Calls Try.prog 35 #[.pointer (some ⟨B p, 0, none⟩), .slice (some ⟨bs, os, none⟩) n c] w (ChildPost B0 w own B N cnt p ss) := by
  subst hn
  have hk := kind_param hpar
  obtain ⟨c0, c1, c2, hat, hown, hm0, hm2, hmix⟩ := hI.node p i hp
  have hc3 := hat.cell3
  have hfr := hat.frozen 3
  have hlt := hat.lt
  clear hm0 hm2 hmix hat
  cases hch : childBlk B N (p ++ [(0, [])]) with
  | some b' =>
    have hc3' : w.cell? ⟨B p, 3, none⟩ = some (.pointer (some ⟨b', 0, none⟩)) := by rw [hc3]; simp only [hch]; rfl
    obtain ⟨hb', j, hj⟩ := childBlk_some hch
    have HP : Hid (ChildPost B0 w own B N cnt p ss (.returned (.pointer (some ⟨b', 0, none⟩))) w) := by
      have := ChildPost.old (s := ss) (j := j) hI (Out.refl w own) (by rw [hk]; exact hj)
      rw [hk, hb'] at this; exact this
    clear hc3 hch hb' hj hp hk hown
    go_enter Try.func35, Try.ntmps35
    go_wp2_with fail
    refine (param_yes bs os _ c ss w rfl hc hpar).mono ?_
    rintro e w1 ⟨rfl, rfl⟩
    go_wp2_with fail
    go_ret
    exact HP.out
  | none =>
    have hc3' : ∀ o, (w.alloc o).cell? ⟨B p, 3, none⟩ = some (.pointer none) := fun o => by rw [World.cell?_alloc_past _ _ _ hlt, hc3]; simp only [hch]; rfl
    replace hc3 : w.cell? ⟨B p, 3, none⟩ = some (.pointer none) := by rw [hc3]; simp only [hch]; rfl
    have hfr' : ∀ o, (w.alloc o).frozen? ⟨B p, 3, none⟩ = false := fun o => by rw [World.frozen?_alloc_old _ _ _ (by show B p ≠ _; omega)]; exact hfr
    have HP : Hid (ChildPost B0 w own B N cnt p ss (.returned (.pointer (some ⟨w.heap.size, 0, none⟩))) ((w.setCell ⟨B p, 3, none⟩ (.pointer (some ⟨w.heap.size, 0, none⟩))).alloc emptyNode)) :=
      param_step hI hB0 hp hk (by rw [hk]; exact childBlk_none hch)
    unfold emptyNode at HP
    clear hch hp hk hown
    go_enter Try.func35, Try.ntmps35
    go_wp2_with fail
    refine (param_yes bs os _ c ss w rfl hc hpar).mono ?_
    rintro e w1 ⟨rfl, rfl⟩
    go_wp2_with fail
    go_ret
    exact HP.out

set_option maxHeartbeats 1000000 in
set_option maxRecDepth 100000 in
theorem child_lit (B0 : Nat) (w : World) (own : Own) (B : List Key → Nat) (N : Trie) (cnt : Nat) (p : List Key) (i : NI) (hI : Inv B0 w own B N cnt) (hB0 : B0 ≤ w.heap.size) (hp : N p = some i) (bs os c : Nat) (ss : List ByteArray)
    (h1 : ss.length = 1) (hc : RowAt w bs os ss) (hbs : bs < w.heap.size) (hob : own bs = none) :
    Calls Try.prog 35 #[.pointer (some ⟨B p, 0, none⟩), .slice (some ⟨bs, os, none⟩) 1 c] w (ChildPost B0 w own B N cnt p ss) := by
  have hk := kind_lit h1
  have hnp : bls ss ≠ [[], []] := fun e => by have := congrArg List.length e; rw [bls_length] at this; simp at this; omega
  obtain ⟨c0, c1, c2, hat, hown, hm0, hm2, hmix⟩ := hI.node p i hp
  have hc0 := hat.cell0
  have hfr := hat.frozen 0
  have hlt := hat.lt
  have hfr' : ∀ o, (w.alloc o).frozen? ⟨B p, 0, none⟩ = false := fun o => by rw [World.frozen?_alloc_old _ _ _ (by show B p ≠ _; omega)]; exact hfr
  have hmm := @run_makeMap Try.prog
  have hq1 := fun (w : World) (r : Option Nat) => run_eql_map_nil (P := Try.prog) w 54 9 33 r Try.underlying54
  have h0 := hc 0 (by omega)
  rw [Nat.add_zero] at h0
  generalize ss.getD 0 ByteArray.empty = s0 at *
  go_enter Try.func35, Try.ntmps35
  go_wp2_with fail
  refine (param_no bs os _ c ss w h1.symm hc hnp).mono ?_
  rintro e w1 ⟨rfl, rfl⟩
  go_wp2_with fail
  refine (literal_yes _ _ _).mono ?_
  rintro e w1 ⟨rfl, rfl⟩
  have HP : Hid (N p = some i ∧ kindOf ss = (1, bl s0)) := ⟨hp, hk⟩
  obtain ⟨r, rfl⟩ : ∃ r, c0 = .map r := by
    rcases hm0 with ⟨rfl, _⟩ | ⟨m, _, _, rfl, _⟩
    · exact ⟨_, rfl⟩
    · exact ⟨_, rfl⟩
  have hc0' : ∀ o, (w1.alloc o).cell? ⟨B p, 0, none⟩ = some (.map r) := fun o => by rw [World.cell?_alloc_past _ _ _ hlt, hc0]
  clear hp hk hat hm2 hmix hown hc hnp
  go_upto_if 33 with fail
  go_cut [] (fun wr => ∃ own' m es clk, Inv B0 wr own' B N cnt ∧ Out w1 own wr own' ∧ wr.cell? ⟨B p, 0, none⟩ = some (.map (some m)) ∧ wr.heap[m]? = some (.map es clk) ∧ AllStr es.toList)
  case first =>
    rcases hm0 with ⟨e, hg⟩ | ⟨m, es, clk, e, hom, hmb, hall, hlook⟩
    · cases e
      obtain ⟨own', k1, k2⟩ := map0_step hI hB0 HP.out.1 hc0
      have H1 : Hid (Inv B0 ((w1.setCell ⟨B p, 0, none⟩ (.map (some w1.heap.size))).alloc (.map #[] 0)) own' B N cnt ∧ Out w1 own ((w1.setCell ⟨B p, 0, none⟩ (.map (some w1.heap.size))).alloc (.map #[] 0)) own') := ⟨k1, k2⟩
      clear k1 k2
      go_wp2_with fail
      go_meet
      case rel =>
        refine ⟨own', w1.heap.size, #[], 0, H1.out.1, H1.out.2, ?_, heap_set_alloc_new _ _ _ _, by simp [AllStr]⟩
        rw [World.cell?_alloc_past _ _ _ (by simpa [World.setCell] using hlt)]
        exact World.cell?_setCell_same _ _ _ hc0
    · cases e
      go_wp2_with fail
      go_meet
      case rel => exact ⟨own, m, es, clk, hI, Out.refl _ _, hc0, hmb, hall⟩
  case rest =>
    obtain ⟨own2, m, es, clk, hI2, ho2, hcm, hmb, hall⟩ := hcut
    clear hm0 hc0 hc0' hfr hfr' hmm
    have h02 : wc.cell? ⟨bs, os, none⟩ = some (.string s0) := by rw [World.cell?_of_block (w := w1) (ho2.block bs hbs hob)]; exact h0
    have hlook : look s0 es.toList = (childBlk B N (p ++ [(1, bl s0)])).map fun b => .pointer (some ⟨b, 0, none⟩) := by
      obtain ⟨d0, d1, d2, hat, hown, hm0, hm2, hmix⟩ := hI2.node p i HP.out.1
      rw [hat.cell0] at hcm
      cases hcm
      rcases hm0 with ⟨e, _⟩ | ⟨m', es', clk', e, _, hmb', _, hlook⟩
      · cases e
      · cases e
        rw [hmb] at hmb'
        cases hmb'
        exact hlook s0
    have hlk := fun nq => run_look (wc.drewN nq) m es clk hmb hall s0
    cases hch : childBlk B N (p ++ [(1, bl s0)]) with
    | some b' =>
      rw [hch] at hlook
      simp only [Option.map_some] at hlook
      rw [hlook, Option.getD_some] at hlk
      obtain ⟨hb', j, hj⟩ := childBlk_some hch
      have HQ : Hid (∀ nq, ChildPost B0 w1 own B N cnt p ss (.returned (.pointer (some ⟨b', 0, none⟩))) (wc.drewN nq)) := fun nq => by
        have hbl : Below wc.heap.size wc (wc.drewN nq) := below_drewN (Below.refl _ _) nq
        have := ChildPost.old (s := ss) (j := j) (hI2.later hbl) (ho2.trans (Out.of_below hbl)) (by rw [HP.out.2]; exact hj)
        rw [HP.out.2, hb'] at this; exact this
      clear hlook hch hb' hj hI hI2 ho2 hmb hall
      go_wp2_with fail
      go_quiet (fail)
      go_wp2_with fail
      go_ret
      exact HQ.out _
    | none =>
      rw [hch] at hlook
      simp only [Option.map_none] at hlook
      rw [hlook, Option.getD_none] at hlk
      have hchn := childBlk_none hch
      clear hch
      go_wp2_with fail
      go_quiet (fail)
      go_wp2_with fail
      have hbl : Below wc.heap.size wc (wc.drewN nq) := below_drewN (Below.refl _ _) nq
      have hbla : Below wc.heap.size wc ((wc.drewN nq).alloc (.cells #[.map none, .slice none 0 0, .map none, .pointer none, .pointer none] 57)) := hbl.alloc (Nat.le_refl _) _
      have HA : Hid ((wc.drewN nq).alloc (.cells #[.map none, .slice none 0 0, .map none, .pointer none, .pointer none] 57) = (wc.drewN nq).alloc emptyNode) := rfl
      generalize (wc.drewN nq).alloc (.cells #[.map none, .slice none 0 0, .map none, .pointer none, .pointer none] 57) = wa at *
      have hcma : wa.cell? ⟨B p, 0, none⟩ = some (.map (some m)) := by
        rw [hbla.cell (p := ⟨B p, 0, none⟩) (World.block_lt_of_cell? wc _ hcm)]; exact hcm
      have h0a : wa.cell? ⟨bs, os, none⟩ = some (.string s0) := by
        rw [hbla.cell (p := ⟨bs, os, none⟩) (World.block_lt_of_cell? wc _ h02)]; exact h02
      have hmba : wa.heap[m]? = some (.map es clk) := by
        rw [hbla.block m (Array.getElem?_eq_some_iff.1 hmb).1]; exact hmb
      have hup : (Instr.mapUpdate 54 (.map (some m)) (.string s0) (.pointer (some ⟨wc.heap.size, 0, none⟩))).run Try.prog wa.drew = .ok () (setBlock wa.drew m (.map (es.push { key := .string s0, val := .pointer (some ⟨wc.heap.size, 0, none⟩), born := clk }) (clk + 1))) := run_store_new wa.drew m es clk hmba hall s0 _ hlook
      have HQ : Hid (ChildPost B0 w1 own B N cnt p ss (.returned (.pointer (some ⟨wc.heap.size, 0, none⟩))) (setBlock wa.drew m (.map (es.push { key := .string s0, val := .pointer (some ⟨wc.heap.size, 0, none⟩), born := clk }) (clk + 1)))) := by
        have hext : Ext (wc.drewN nq) (setBlock wa.drew m (.map (es.push { key := .string s0, val := .pointer (some ⟨wc.heap.size, 0, none⟩), born := clk }) (clk + 1))) := by
          rw [HA.out]
          exact ⟨rfl, rfl, rfl, by rw [size_setBlock]; exact Nat.le_of_lt (by show (wc.drewN nq).heap.size < ((wc.drewN nq).alloc emptyNode).heap.size; simp)⟩
        refine lit_step (w := wc.drewN nq) (m := m) (es := es) (clk := clk) (t := s0) (hI2.later hbl) (Nat.le_trans hB0 ho2.size) HP.out.1 HP.out.2 (by rw [HP.out.2]; exact hchn) hcm hmb ?_ hext (ho2.trans (Out.of_below hbl))
        rw [HA.out]
        rfl
      clear hlk hbla hmba hI hI2 ho2 hbl hmb hall HA hlook
      go_region
      go_wp2_with fail
      go_ret
      exact HQ.out
end Go.Proofs.Qxb6001106a
