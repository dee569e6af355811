/-
  DERIVED, BY AN AI AGENT. Seat b6001106a: slices of segments: zzSizeSegs (18), zzSegsNonEmpty (19), zzCloneStrs (11, with where it lies), zzCloneSegs (21).
-/
import Derived.Test.Qxb6001106aInsert
namespace Go.Proofs.Qxb6001106a
open Go.RowKit

/-- Nobody owns anything. -/
def noOwn : Own := fun _ => none

theorem SegsAt.later {w w' : World} {own : Own} {a : Option Addr} {T : List (List ByteArray)} (h : SegsAt w own a T) (hb : Below w.heap.size w w') : SegsAt w' own a T := by
  intro j hj
  obtain ⟨b, o, a', c, e, hbl, hob, hcell, hst, hc, ho⟩ := h j hj
  exact ⟨b, o, a', c, e, Nat.lt_of_lt_of_le hbl hb.size, hob, by rw [hb.cell (p := ⟨b, o + j, none⟩) hbl]; exact hcell, hst.later hb, hc, ho⟩

set_option maxHeartbeats 400000 in
theorem sizeSegs_any (own : Own) (a : Option Addr) (n c : Nat) (T : List (List ByteArray)) (w : World) (hn : n = T.length) (hl : T.length ≤ 1048576) (hz : ∀ j, j < T.length → Sz (T.getD j [])) (hT : SegsAt w own a T) :
    Calls Try.prog 18 #[.slice a n c] w fun e w' => ∃ z : Int, e = .returned (.int .i64 z) ∧ 24 ≤ z ∧ z ≤ 1048577 ∧ w' = w := by
  subst hn
  go_enter Try.func18, Try.ntmps18
  go_wp2
  go_loopg [3, 4] (T.length) (fun g t ix wr => ∃ (k : Nat) (m : Int), k ≤ T.length ∧ g = T.length - k ∧ ix = .int .i64 k ∧ t = .int .i64 m ∧ 24 ≤ m ∧ m ≤ 1048576 ∧ wr = w)
  case atStart => exact ⟨0, 24, Nat.zero_le _, rfl, rfl, rfl, by omega, by omega, rfl⟩
  case round =>
    obtain ⟨k, m, hk, rfl, rfl, rfl, hm1, hm2, rfl⟩ := hrel
    by_cases hlt : k < T.length
    · obtain ⟨b, o, a', c', rfl, hb, hob, hcell, hst, hc', _⟩ := hT k hlt
      have hzk := hz k hlt
      generalize T.getD k [] = sk at *
      go_wp2_with fail
      refine (sizeStrs_any a' _ c' sk _ rfl hzk hst).mono ?_
      rintro e w2 ⟨z1, rfl, g1, g2, _, rfl⟩
      by_cases hbig : 1048576 < m + z1
      · go_wp2_with fail
        go_ret
        exact ⟨_, rfl, by omega, by omega, rfl⟩
      · go_wp2_with fail
        go_roundg (T.length - (k + 1))
        case measure => omega
        case rel => exact ⟨k + 1, m + z1, by omega, rfl, by go_num, by go_num, by omega, by omega, rfl⟩
    · go_wp2_with fail
      go_ret
      exact ⟨_, rfl, by omega, by omega, rfl⟩

set_option maxHeartbeats 400000 in
theorem nonEmpty_any (own : Own) (a : Option Addr) (n c : Nat) (T : List (List ByteArray)) (w : World) (hn : n = T.length) (hl : T.length ≤ 1048576) (hT : SegsAt w own a T) :
    Calls Try.prog 19 #[.slice a n c] w (AnsB (fun b => b = true → ∀ j, j < T.length → T.getD j [] ≠ []) w) := by
  subst hn
  go_enter Try.func19, Try.ntmps19
  go_wp2
  go_loop [3] (fun ix => ∃ k : Nat, k ≤ T.length ∧ ix = .int .i64 k ∧ Hid (∀ j, j < k → T.getD j [] ≠ [])) (fun ix => T.length - (intOf ix).toNat)
  case atStart => exact ⟨0, Nat.zero_le _, rfl, fun j hj => absurd hj (Nat.not_lt_zero _)⟩
  case round =>
    obtain ⟨k, hk, rfl, HA⟩ := hrel
    by_cases hlt : k < T.length
    · obtain ⟨b, o, a', c', rfl, hb, hob, hcell, hst, hc', _⟩ := hT k hlt
      have HB : Hid (T.getD k [] ≠ [] → ∀ j, j < k + 1 → T.getD j [] ≠ []) := fun h j hj => by
        by_cases e : j = k
        · subst e; exact h
        · exact HA.out j (by omega)
      clear hT hst
      generalize T.getD k [] = sk at *
      by_cases h0 : sk.length = 0
      · have hb0 : ((sk.length : Int) == 0) = true := by rw [beq_iff_eq]; omega
        go_wp2
        go_ret
        exact AnsB.no
      · have hb0 : ((sk.length : Int) == 0) = false := by rw [beq_eq_false_iff_ne]; omega
        go_wp2
        go_round
        case rel => exact ⟨k + 1, by omega, by go_num, HB.out (fun e => h0 (by rw [e]; rfl))⟩
        case measure => simp [intOf]; omega
    · go_wp2
      go_ret
      exact AnsB.mk true fun _ j hj => HA.out j (by omega)

/-- zzCloneStrs, and where the copy lies. -/
def ClonedF (w : World) (ss : List ByteArray) (e : Ending) (w' : World) : Prop :=
  ∃ a c, e = .returned (.slice a ss.length c) ∧ StrsAt w' a ss ∧ ss.length ≤ c ∧ Below w.heap.size w w' ∧ ∀ ad, a = some ad → w.heap.size ≤ ad.block

set_option maxHeartbeats 400000 in
theorem cloneStrs_fresh (a : Option Addr) (n c : Nat) (ss : List ByteArray) (w : World) (hn : n = ss.length) (hlen : ss.length ≤ 1048576) (hc : StrsAt w a ss) :
    Calls Try.prog 11 #[.slice a n c] w (ClonedF w ss) := by
  subst hn
  have hmk := run_make_row' (P := Try.prog) 22 9 (.string ⟨#[]⟩) 16 Try.underlying22 Try.info9 rfl .i64 .i64 ss.length (by omega) (by omega)
  have hnil := fun (w : World) (x : Option Addr) (n c : Nat) => Lib.run_eql_slice_nil (P := Try.prog) w 22 9 x n c 0 0 Try.underlying22
  match a with
  | none =>
    have h0 : ss = [] := by
      cases ss with
      | nil => rfl
      | cons x r => obtain ⟨b, o, e, _⟩ := hc 0 (by simp); cases e
    subst h0
    go_enter Try.func11, Try.ntmps11
    go_wp2
    go_ret
    exact ⟨_, _, rfl, StrsAt.nil _ _, by simp, Below.refl _ _, fun _ h => by cases h⟩
  | some ad =>
    go_enter Try.func11, Try.ntmps11
    go_wp2
    go_loopg [4] (ss.length) (fun g i wr => ∃ k : Nat, k ≤ ss.length ∧ g = ss.length - k ∧ i = .int .i64 k ∧ Below w.heap.size w wr ∧
      wr.rowIs w.heap.size 9 ss.length (fun j => if j < k then .string (ss.getD j ByteArray.empty) else .string ⟨#[]⟩))
    case atStart => exact ⟨0, Nat.zero_le _, by omega, rfl, (Below.refl _ _).alloc (Nat.le_refl _) _, (World.rowIs_made _ _ _ _).congr (fun i _ => by simp)⟩
    case round =>
      obtain ⟨k, hk, rfl, rfl, hb, hrow⟩ := hrel
      by_cases hlt : k < ss.length
      · obtain ⟨b, o, hao, hbl, hcell⟩ := hc k hlt
        have hcell' : wr.cell? ⟨b, o + k, none⟩ = some (.string (ss.getD k ByteArray.empty)) := by rw [hb.cell (p := ⟨b, o + k, none⟩) hbl]; exact hcell
        have hfr := hrow.frozen k
        have hck := hrow.cell hlt
        cases hao
        go_wp2
        go_roundg (ss.length - (k + 1))
        case measure => omega
        case rel =>
          refine ⟨k + 1, by omega, rfl, by go_num, hb.setCell (Nat.le_refl _) _, (hrow.set k _).congr (fun i _ => ?_)⟩
          by_cases e : i = k
          · subst e; simp [hlt]
          · by_cases e2 : i < k
            · rw [if_neg e, if_pos e2, if_pos (by omega)]
            · rw [if_neg e, if_neg e2, if_neg (by omega)]
      · go_wp2
        go_ret
        exact ⟨_, _, rfl, StrsAt.row hrow (fun i hi => by rw [if_pos (by omega)]), Nat.le_refl _, hb, fun _ h => by cases h; exact Nat.le_refl _⟩

theorem Try.info22 : (Try.prog.info? 22).map (fun i => (i.zero, i.size, i.bytes)) = some (some (.slice none 0 0), 1, 24) := by kernel_rfl

/-- zzCloneSegs. -/
def ClonedSegs (w : World) (T : List (List ByteArray)) (e : Ending) (w' : World) : Prop :=
  ∃ a c, e = .returned (.slice a T.length c) ∧ SegsAt w' noOwn a T ∧ T.length ≤ c ∧ Below w.heap.size w w' ∧
    (∀ ad, a = some ad → w.heap.size ≤ ad.block) ∧ ∀ j, j < T.length → ∃ b o a' c', a = some ⟨b, o, none⟩ ∧ w'.cell? ⟨b, o + j, none⟩ = some (.slice a' (T.getD j []).length c') ∧ ∀ ad, a' = some ad → w.heap.size ≤ ad.block

set_option maxHeartbeats 400000 in
theorem cloneSegs_any (own : Own) (a : Option Addr) (n c : Nat) (T : List (List ByteArray)) (w : World) (hn : n = T.length) (hlen : T.length ≤ 1048576) (hz : ∀ j, j < T.length → Sz (T.getD j [])) (hT : SegsAt w own a T) :
    Calls Try.prog 21 #[.slice a n c] w (ClonedSegs w T) := by
  subst hn
  have hmk := run_make_row' (P := Try.prog) 29 22 (.slice none 0 0) 24 Try.underlying29 Try.info22 rfl .i64 .i64 T.length (by omega) (by omega)
  have hnil := fun (w : World) (x : Option Addr) (n c : Nat) => Lib.run_eql_slice_nil (P := Try.prog) w 29 22 x n c 0 0 Try.underlying29
  match a with
  | none =>
    have h0 : T = [] := by
      cases T with
      | nil => rfl
      | cons x r => obtain ⟨b, o, _, _, e, _⟩ := hT 0 (by simp); cases e
    subst h0
    go_enter Try.func21, Try.ntmps21
    go_wp2
    go_ret
    exact ⟨_, _, rfl, fun j hj => absurd hj (Nat.not_lt_zero _), by simp, Below.refl _ _, (fun _ h => by cases h), fun j hj => absurd hj (Nat.not_lt_zero _)⟩
  | some ad =>
    go_enter Try.func21, Try.ntmps21
    go_wp2
    go_loopg [4] (T.length) (fun g i wr => ∃ k : Nat, k ≤ T.length ∧ g = T.length - k ∧ i = .int .i64 k ∧ Below w.heap.size w wr ∧ ∃ V : Nat → Value,
      wr.rowIs w.heap.size 22 T.length (fun j => if j < k then V j else .slice none 0 0) ∧ Hid (∀ j, j < k → ∃ a' c', V j = .slice a' (T.getD j []).length c' ∧ StrsAt wr a' (T.getD j []) ∧ (T.getD j []).length ≤ c' ∧ ∀ ad, a' = some ad → w.heap.size < ad.block))
    case atStart => exact ⟨0, Nat.zero_le _, by omega, rfl, (Below.refl _ _).alloc (Nat.le_refl _) _, fun _ => .slice none 0 0, (World.rowIs_made _ _ _ _).congr (fun i _ => by simp), fun j hj => absurd hj (Nat.not_lt_zero _)⟩
    case round =>
      obtain ⟨k, hk, rfl, rfl, hb, V, hrow, HV⟩ := hrel
      by_cases hlt : k < T.length
      · obtain ⟨b, o, a', c', hao, hbl, _, hcell, hst, hc', _⟩ := hT k hlt
        cases hao
        have hcell' : wr.cell? ⟨b, o + k, none⟩ = some (.slice a' (T.getD k []).length c') := by rw [hb.cell (p := ⟨b, o + k, none⟩) hbl]; exact hcell
        have hst' := hst.later hb
        have hzk := (hz k hlt).1
        obtain ⟨sk, HSK⟩ : ∃ sk, Hid (T.getD k [] = sk) := ⟨_, hid_of rfl⟩
        rw [HSK.out] at hcell' hst' hzk
        clear hst hcell
        go_wp2_with fail
        refine (cloneStrs_fresh a' _ c' sk wr rfl hzk hst').mono ?_
        intro e w2 hpost
        obtain ⟨a2, c2, rfl, hs2, hc2, hb2, hf2⟩ := hpost
        have hbs : w.heap.size < wr.heap.size := hrow.lt
        have hrow2 := hrow.of_block (hb2.block _ hbs)
        have hfr := hrow2.frozen k
        have hck := hrow2.cell hlt
        have hb2' : Below w.heap.size w w2 := hb.trans (hb2.mono (by omega))
        go_wp2_with fail
        go_roundg (T.length - (k + 1))
        case measure => omega
        case rel =>
          have hkeep : ∀ (x : Option Addr) (s : List ByteArray), StrsAt w2 x s → (∀ ad, x = some ad → w.heap.size < ad.block) → ∀ v, StrsAt (w2.setCell ⟨w.heap.size, k, none⟩ v) x s := by
            intro x s hx hxb v i hi
            obtain ⟨b1, o1, e1, h1, h2⟩ := hx i hi
            refine ⟨b1, o1, e1, by simpa [World.setCell] using h1, ?_⟩
            rw [World.cell?_of_block (w := w2) (Below.heap_setCell _ _ _ _ (by have := hxb _ e1; show b1 ≠ w.heap.size; simp at this; omega))]
            exact h2
          refine ⟨k + 1, by omega, rfl, by go_num, hb2'.setCell (Nat.le_refl _) _, fun j => if j = k then .slice a2 sk.length c2 else V j, (hrow2.set k _).congr (fun i _ => ?_), ?_⟩
          · by_cases e : i = k
            · subst e; simp
            · by_cases e2 : i < k
              · rw [if_neg e, if_pos e2, if_pos (by omega)]; simp [e]
              · rw [if_neg e, if_neg e2, if_neg (by omega)]
          · intro j hj
            by_cases e : j = k
            · subst e
              rw [HSK.out]
              exact ⟨a2, c2, by simp, hkeep _ _ hs2 (fun ad h => by have := hf2 ad h; omega) _, hc2, fun ad h => by have := hf2 ad h; omega⟩
            · obtain ⟨a3, c3, g1, g2, g3, g4⟩ := HV.out j (by omega)
              exact ⟨a3, c3, by simp only [if_neg e]; exact g1, hkeep _ _ (g2.later hb2) g4 _, g3, g4⟩
      · go_wp2_with fail
        go_ret
        refine ⟨_, _, rfl, ?_, Nat.le_refl _, hb, (fun _ h => by cases h; exact Nat.le_refl _), ?_⟩
        · intro j hj
          obtain ⟨a3, c3, g1, g2, g3, g4⟩ := HV.out j (by omega)
          refine ⟨w.heap.size, 0, a3, c3, rfl, hrow.lt, rfl, ?_, g2, g3, fun _ _ => rfl⟩
          rw [Nat.zero_add, hrow.cell hj, if_pos (by omega), g1]
        · intro j hj
          obtain ⟨a3, c3, g1, g2, g3, g4⟩ := HV.out j (by omega)
          refine ⟨w.heap.size, 0, a3, c3, rfl, ?_, fun ad h => Nat.le_of_lt (g4 ad h)⟩
          rw [Nat.zero_add, hrow.cell hj, if_pos (by omega), g1]

end Go.Proofs.Qxb6001106a
