/-
  DERIVED, BY AN AI AGENT. Seat b6600249a: slices of bools; zzBytes_FnReserveChainWalksBack (24), cloneBools_b1 (25), textAt_b1 (27), faultAt_b1 (28), hasNul_b1 (44).
-/
import Derived.Test.Qxb6600249aBase
namespace Go.Proofs.Qxb6600249a
open Go.RowKit

/-- The slice at address a reads as the bools bs. -/
def BoolsAt (w : World) (a : Option Addr) (bs : List Bool) : Prop :=
  ∀ i, i < bs.length → ∃ b o, a = some ⟨b, o, none⟩ ∧ b < w.heap.size ∧ w.cell? ⟨b, o + i, none⟩ = some (.bool (bs.getD i false))

theorem BoolsAt.later {w w' : World} {a : Option Addr} {bs : List Bool} (h : BoolsAt w a bs) (hb : Below w.heap.size w w') : BoolsAt w' a bs := by
  intro i hi
  obtain ⟨b, o, e, hlt, hcell⟩ := h i hi
  exact ⟨b, o, e, Nat.lt_of_lt_of_le hlt hb.size, by rw [hb.cell (p := ⟨b, o + i, none⟩) hlt]; exact hcell⟩

set_option maxHeartbeats 1000000 in
theorem bytes24_any (a a' a'' : Option Addr) (n c n' c' n'' c'' : Nat) (ss st : List ByteArray) (w : World) (hn : n = ss.length) (hn' : n' = st.length) (hc : StrsAt w a ss) (hc' : StrsAt w a' st) :
    Calls Try.prog 24 #[.slice a n c, .slice a' n' c', .slice a'' n'' c''] w (AnsB (fun b => b = true → Sz ss ∧ Sz st ∧ n'' ≤ 1048576) w) := by
  subst hn hn'
  by_cases hl : 1048576 < ss.length
  · go_enter Try.func24, Try.ntmps24
    go_wp2
    go_ret
    exact AnsB.no
  go_enter Try.func24, Try.ntmps24
  go_wp2
  go_loop [7, 8] (fun t i => ∃ k m : Nat, k ≤ ss.length ∧ i = .int .i64 k ∧ t = .int .i64 m ∧ m ≤ 1048576 ∧ Hid (∀ j, j < k → (ss.getD j ByteArray.empty).size ≤ 1048576)) (fun _ i => ss.length - (intOf i).toNat)
  case atStart => exact ⟨0, ss.length, Nat.zero_le _, rfl, by go_num, by omega, fun j hj => absurd hj (Nat.not_lt_zero _)⟩
  case round =>
    obtain ⟨k, m, hk, rfl, rfl, ht, HA⟩ := hrel
    by_cases hlt : k < ss.length
    · obtain ⟨b, o, rfl, _, hcell⟩ := hc k hlt
      clear hc hc'
      have HB : Hid ((ss.getD k ByteArray.empty).size ≤ 1048576 → ∀ j, j < k + 1 → (ss.getD j ByteArray.empty).size ≤ 1048576) := fun h j hj => by
        by_cases e : j = k
        · subst e; exact h
        · exact HA.out j (by omega)
      clear HA
      generalize ss.getD k ByteArray.empty = sk at *
      go_wp2
      · go_ret
        exact AnsB.no
      · go_ret
        exact AnsB.no
      · go_round
        case rel => exact ⟨k + 1, m + sk.size, by omega, by go_num, by go_num, by omega, HB.out (by omega)⟩
        case measure => simp [intOf]; omega
    · have HZ : Hid (Sz ss) := sz_of (by omega) (fun i hi => HA.out i (by omega))
      clear HA hc
      by_cases hl2 : 1048576 < st.length
      · go_wp2
        go_ret
        exact AnsB.no
      by_cases hl3 : 1048576 < m + st.length
      · go_wp2
        go_ret
        exact AnsB.no
      go_wp2
      go_loop [7, 9] (fun t i => ∃ k m : Nat, k ≤ st.length ∧ i = .int .i64 k ∧ t = .int .i64 m ∧ m ≤ 1048576 ∧ Hid (∀ j, j < k → (st.getD j ByteArray.empty).size ≤ 1048576)) (fun _ i => st.length - (intOf i).toNat)
      case atStart => exact ⟨0, m + st.length, Nat.zero_le _, rfl, by go_num, by omega, fun j hj => absurd hj (Nat.not_lt_zero _)⟩
      case round =>
        clear hk ht hlt
        obtain ⟨k, m, hk, rfl, rfl, ht, HA⟩ := hrel
        by_cases hlt : k < st.length
        · obtain ⟨b, o, rfl, _, hcell⟩ := hc' k hlt
          clear hc'
          have HB : Hid ((st.getD k ByteArray.empty).size ≤ 1048576 → ∀ j, j < k + 1 → (st.getD j ByteArray.empty).size ≤ 1048576) := fun h j hj => by
            by_cases e : j = k
            · subst e; exact h
            · exact HA.out j (by omega)
          clear HA
          generalize st.getD k ByteArray.empty = sk at *
          go_wp2
          · go_ret
            exact AnsB.no
          · go_ret
            exact AnsB.no
          · go_round
            case rel => exact ⟨k + 1, m + sk.size, by omega, by go_num, by go_num, by omega, HB.out (by omega)⟩
            case measure => simp [intOf]; omega
        · have HZ2 : Hid (Sz st) := sz_of (by omega) (fun i hi => HA.out i (by omega))
          clear HA hc'
          by_cases hbig : 1048576 < n''
          · go_wp2
            go_ret
            exact AnsB.no
          go_wp2
          · go_ret
            exact AnsB.no
          · go_ret
            exact AnsB.mk true fun _ => ⟨HZ.out, HZ2.out, by omega⟩

theorem Try.info4' : (Try.prog.info? 4).map (fun i => (i.zero, i.size, i.bytes)) = some (some (.bool false), 1, 1) := by kernel_rfl

/-- cloneBools_b1. -/
def ClonedBo (w : World) (bs : List Bool) (e : Ending) (w' : World) : Prop :=
  ∃ a c, e = .returned (.slice a bs.length c) ∧ BoolsAt w' a bs ∧ Below w.heap.size w w'

set_option maxHeartbeats 400000 in
theorem cloneBools_any (a : Option Addr) (n c : Nat) (bs : List Bool) (w : World) (hn : n = bs.length) (hlen : bs.length ≤ 1048576) (hc : BoolsAt w a bs) :
    Calls Try.prog 25 #[.slice a n c] w (ClonedBo w bs) := by
  subst hn
  have hmk := run_make_row' (P := Try.prog) 44 4 (.bool false) 1 Try.underlying44 Try.info4' rfl .i64 .i64 bs.length (by omega) (by omega)
  have hnil := fun (w : World) (x : Option Addr) (n c : Nat) => Lib.run_eql_slice_nil (P := Try.prog) w 44 4 x n c 0 0 Try.underlying44
  match a with
  | none =>
    have h0 : bs = [] := by
      cases bs with
      | nil => rfl
      | cons x r => obtain ⟨b, o, e, _⟩ := hc 0 (by simp); cases e
    subst h0
    go_enter Try.func25, Try.ntmps25
    go_wp2
    go_ret
    exact ⟨_, _, rfl, fun _ hi => absurd hi (Nat.not_lt_zero _), Below.refl _ _⟩
  | some ad =>
    go_enter Try.func25, Try.ntmps25
    go_wp2
    go_loopg [4] (bs.length) (fun g i wr => ∃ k : Nat, k ≤ bs.length ∧ g = bs.length - k ∧ i = .int .i64 k ∧ Below w.heap.size w wr ∧
      wr.rowIs w.heap.size 4 bs.length (fun j => if j < k then .bool (bs.getD j false) else .bool false))
    case atStart => exact ⟨0, Nat.zero_le _, by omega, rfl, (Below.refl _ _).alloc (Nat.le_refl _) _, (World.rowIs_made _ _ _ _).congr (fun i _ => by simp)⟩
    case round =>
      obtain ⟨k, hk, rfl, rfl, hb, hrow⟩ := hrel
      by_cases hlt : k < bs.length
      · obtain ⟨b, o, hao, hbl, hcell⟩ := hc k hlt
        have hcell' : wr.cell? ⟨b, o + k, none⟩ = some (.bool (bs.getD k false)) := by rw [hb.cell (p := ⟨b, o + k, none⟩) hbl]; exact hcell
        have hfr := hrow.frozen k
        have hck := hrow.cell hlt
        cases hao
        go_wp2
        go_roundg (bs.length - (k + 1))
        case measure => omega
        case rel =>
          refine ⟨k + 1, by omega, rfl, by go_num, hb.setCell (Nat.le_refl _) _, (hrow.set k _).congr (fun i _ => ?_)⟩
          by_cases e : i = k
          · subst e; simp [hlt]
          · by_cases e2 : i < k
            · rw [if_neg e, if_pos e2, if_pos (by omega)]
            · rw [if_neg e, if_neg e2, if_neg (by omega)]
      · go_wp2
        go_ret
        exact ⟨_, _, rfl, fun i hi => ⟨_, 0, rfl, hrow.lt, by rw [Nat.zero_add, hrow.cell hi, if_pos (by omega)]⟩, hb⟩

theorem textAt_any (a : Option Addr) (n c i : Nat) (ss : List ByteArray) (w : World) (hn : n = ss.length) (hc : StrsAt w a ss) :
    Calls Try.prog 27 #[.slice a n c, .int .i64 i] w (fun e w' => e = .returned (.string (ss.getD i ByteArray.empty)) ∧ w' = w) := by
  subst hn
  by_cases hlt : i < ss.length
  · obtain ⟨b, o, rfl, _, hcell⟩ := hc i hlt
    clear hc
    generalize ss.getD i ByteArray.empty = t at *
    go_enter Try.func27, Try.ntmps27
    go_wp2
    go_ret
    exact ⟨rfl, rfl⟩
  · have h0 : ss.getD i ByteArray.empty = ⟨#[]⟩ := by
      rw [List.getD_eq_getElem?_getD, List.getElem?_eq_none (by omega)]; rfl
    go_enter Try.func27, Try.ntmps27
    go_wp2
    go_ret
    exact ⟨by rw [h0]; rfl, rfl⟩

theorem faultAt_any (a : Option Addr) (n c i : Nat) (bs : List Bool) (w : World) (hn : n = bs.length) (hc : BoolsAt w a bs) :
    Calls Try.prog 28 #[.slice a n c, .int .i64 i] w (fun e w' => e = .returned (.bool (bs.getD i false)) ∧ w' = w) := by
  subst hn
  by_cases hlt : i < bs.length
  · obtain ⟨b, o, rfl, _, hcell⟩ := hc i hlt
    clear hc
    generalize bs.getD i false = t at *
    go_enter Try.func28, Try.ntmps28
    go_wp2
    go_ret
    exact ⟨rfl, rfl⟩
  · have h0 : bs.getD i false = false := by
      rw [List.getD_eq_getElem?_getD, List.getElem?_eq_none (by omega)]; rfl
    go_enter Try.func28, Try.ntmps28
    go_wp2
    go_ret
    exact ⟨by rw [h0]; rfl, rfl⟩

end Go.Proofs.Qxb6600249a
