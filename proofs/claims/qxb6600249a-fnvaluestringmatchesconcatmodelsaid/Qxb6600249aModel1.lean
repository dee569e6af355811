/-
  DERIVED, BY AN AI AGENT. Seat b6600249a: slices of bytes; zzBytes_FnValueStringMatchesConcatModel (9), cloneBytes_b1 (12), measure_b1 (14).
-/
import Derived.Test.Qxb6600249aCombs
namespace Go.Proofs.Qxb6600249a
open Go.RowKit

/-- The slice at address a reads as the bytes bs. -/
def BytesAt (w : World) (a : Option Addr) (bs : List UInt8) : Prop :=
  ∀ i, i < bs.length → ∃ b o, a = some ⟨b, o, none⟩ ∧ b < w.heap.size ∧ w.cell? ⟨b, o + i, none⟩ = some (.int .u8 (bs.getD i 0).toNat)

theorem BytesAt.later {w w' : World} {a : Option Addr} {bs : List UInt8} (h : BytesAt w a bs) (hb : Below w.heap.size w w') : BytesAt w' a bs := by
  intro i hi
  obtain ⟨b, o, e, hlt, hcell⟩ := h i hi
  exact ⟨b, o, e, Nat.lt_of_lt_of_le hlt hb.size, by rw [hb.cell (p := ⟨b, o + i, none⟩) hlt]; exact hcell⟩

set_option maxHeartbeats 400000 in
theorem bytes9_any (a a' : Option Addr) (n c n' c' : Nat) (ss : List ByteArray) (w : World) (hn : n = ss.length) (hc : StrsAt w a ss) :
    Calls Try.prog 9 #[.slice a n c, .slice a' n' c'] w (AnsB (fun b => b = true → (Sz ss ∧ tot ss ≤ 1048576) ∧ n' ≤ 1048576) w) := by
  subst hn
  by_cases hl : 1048576 < ss.length
  · go_enter Try.func9, Try.ntmps9
    go_wp2
    go_ret
    exact AnsB.no
  go_enter Try.func9, Try.ntmps9
  go_wp2
  go_loop [5, 6] (fun t i => ∃ k m : Nat, k ≤ ss.length ∧ i = .int .i64 k ∧ t = .int .i64 m ∧ m ≤ 1048576 ∧ Hid (tot (ss.take k) ≤ m ∧ ∀ j, j < k → (ss.getD j ByteArray.empty).size ≤ 1048576)) (fun _ i => ss.length - (intOf i).toNat)
  case atStart => exact ⟨0, ss.length, Nat.zero_le _, rfl, by go_num, by omega, by simp [tot], fun j hj => absurd hj (Nat.not_lt_zero _)⟩
  case round =>
    obtain ⟨k, m, hk, rfl, rfl, ht, HA⟩ := hrel
    by_cases hlt : k < ss.length
    · obtain ⟨b, o, rfl, _, hcell⟩ := hc k hlt
      clear hc
      have HT : Hid (tot (ss.take (k + 1)) = tot (ss.take k) + (ss.getD k ByteArray.empty).size) := tot_snoc ss k hlt
      have HC0 : Hid (tot (ss.take k) ≤ m) := HA.out.1
      have HB : Hid ((ss.getD k ByteArray.empty).size ≤ 1048576 → ∀ j, j < k + 1 → (ss.getD j ByteArray.empty).size ≤ 1048576) := fun h j hj => by
        by_cases e : j = k
        · subst e; exact h
        · exact HA.out.2 j (by omega)
      clear HA
      generalize ss.getD k ByteArray.empty = sk at *
      go_wp2
      · go_ret
        exact AnsB.no
      · go_ret
        exact AnsB.no
      · go_round
        case rel => exact ⟨k + 1, m + sk.size, by omega, by go_num, by go_num, by omega, by have := HT.out; have := HC0.out; omega, HB.out (by omega)⟩
        case measure => simp [intOf]; omega
    · have HZ : Hid (Sz ss ∧ tot ss ≤ 1048576) := by
        refine ⟨sz_of (by omega) (fun i hi => HA.out.2 i (by omega)), ?_⟩
        have := HA.out.1
        rw [List.take_of_length_le (by omega)] at this
        omega
      clear HA
      by_cases hbig : 1048576 < n'
      · go_wp2
        go_ret
        exact AnsB.no
      go_wp2
      · go_ret
        exact AnsB.no
      · go_ret
        exact AnsB.mk true fun _ => ⟨HZ.out, by omega⟩

theorem Try.info5' : (Try.prog.info? 5).map (fun i => (i.zero, i.size, i.bytes)) = some (some (.int .u8 0), 1, 1) := by kernel_rfl

/-- cloneBytes_b1. -/
def ClonedB (w : World) (bs : List UInt8) (e : Ending) (w' : World) : Prop :=
  ∃ a c, e = .returned (.slice a bs.length c) ∧ BytesAt w' a bs ∧ Below w.heap.size w w'

set_option maxHeartbeats 400000 in
theorem cloneBytes_any (a : Option Addr) (n c : Nat) (bs : List UInt8) (w : World) (hn : n = bs.length) (hlen : bs.length ≤ 1048576) (hc : BytesAt w a bs) :
    Calls Try.prog 12 #[.slice a n c] w (ClonedB w bs) := by
  subst hn
  have hmk := run_make_row' (P := Try.prog) 23 5 (.int .u8 0) 1 Try.underlying23 Try.info5' rfl .i64 .i64 bs.length (by omega) (by omega)
  have hnil := fun (w : World) (x : Option Addr) (n c : Nat) => Lib.run_eql_slice_nil (P := Try.prog) w 23 5 x n c 0 0 Try.underlying23
  match a with
  | none =>
    have h0 : bs = [] := by
      cases bs with
      | nil => rfl
      | cons x r => obtain ⟨b, o, e, _⟩ := hc 0 (by simp); cases e
    subst h0
    go_enter Try.func12, Try.ntmps12
    go_wp2
    go_ret
    exact ⟨_, _, rfl, fun _ hi => absurd hi (Nat.not_lt_zero _), Below.refl _ _⟩
  | some ad =>
    go_enter Try.func12, Try.ntmps12
    go_wp2
    go_loopg [4] (bs.length) (fun g i wr => ∃ k : Nat, k ≤ bs.length ∧ g = bs.length - k ∧ i = .int .i64 k ∧ Below w.heap.size w wr ∧
      wr.rowIs w.heap.size 5 bs.length (fun j => if j < k then .int .u8 (bs.getD j 0).toNat else .int .u8 0))
    case atStart => exact ⟨0, Nat.zero_le _, by omega, rfl, (Below.refl _ _).alloc (Nat.le_refl _) _, (World.rowIs_made _ _ _ _).congr (fun i _ => by simp)⟩
    case round =>
      obtain ⟨k, hk, rfl, rfl, hb, hrow⟩ := hrel
      by_cases hlt : k < bs.length
      · obtain ⟨b, o, hao, hbl, hcell⟩ := hc k hlt
        have hcell' : wr.cell? ⟨b, o + k, none⟩ = some (.int .u8 (bs.getD k 0).toNat) := by rw [hb.cell (p := ⟨b, o + k, none⟩) hbl]; exact hcell
        have hfr := hrow.frozen k
        have hck := hrow.cell hlt
        cases hao
        go_wp2
        go_roundg (bs.length - (k + 1))
        case measure => omega
        case rel =>
          refine ⟨k + 1, by omega, rfl, by go_num, hb.setCell (Nat.le_refl _) _, (hrow.set k _).congr (fun i _ => ?_)⟩
          by_cases e : i = k
          · subst e; simp [hlt]
          · by_cases e2 : i < k
            · rw [if_neg e, if_pos e2, if_pos (by omega)]
            · rw [if_neg e, if_neg e2, if_neg (by omega)]
      · go_wp2
        go_ret
        exact ⟨_, _, rfl, fun i hi => ⟨_, 0, rfl, hrow.lt, by rw [Nat.zero_add, hrow.cell hi, if_pos (by omega)]⟩, hb⟩

end Go.Proofs.Qxb6600249a
