/-
  DERIVED, BY AN AI AGENT. Seat b6600249a: slices of strings as lists; sumStrings_b1 (10), cloneStrings_b1 (11), zzBytes_FnValueStringIgnoresGrouping (17).
-/
import Derived.Test.Qxb6600249aProg
import Derived.WalkKit
import Derived.WalkSpells
import Derived.WalkLawsBesides
import Derived.Deep.LoopGhost
import Derived.Deep.OwnRows
namespace Go.Proofs.Qxb6600249a
open Go.RowKit

theorem hid_of {p : Prop} (h : p) : Hid p := h

/-- A text as its list of bytes. -/
def bl (s : ByteArray) : List UInt8 := s.data.toList
theorem bl_length (s : ByteArray) : (bl s).length = s.size := by simp only [bl, Array.length_toList]; rfl

/-- The slice at address a reads as the texts ss. -/
def StrsAt (w : World) (a : Option Addr) (ss : List ByteArray) : Prop :=
  ∀ i, i < ss.length → ∃ b o, a = some ⟨b, o, none⟩ ∧ b < w.heap.size ∧ w.cell? ⟨b, o + i, none⟩ = some (.string (ss.getD i ByteArray.empty))

/-- No text is longer than 2^20. -/
def Sz (ss : List ByteArray) : Prop := ss.length ≤ 1048576 ∧ ∀ i, (ss.getD i ByteArray.empty).size ≤ 1048576

/-- A bool came back, of which p holds; the world is as it was. -/
def AnsB (p : Bool → Prop) (w : World) (e : Ending) (w' : World) : Prop := ∃ b, e = .returned (.bool b) ∧ p b ∧ w' = w
theorem AnsB.mk {p : Bool → Prop} {w : World} (b : Bool) (h : p b) : AnsB p w (.returned (.bool b)) w := ⟨b, rfl, h, rfl⟩
theorem AnsB.no {p : Prop} {w : World} : AnsB (fun b => b = true → p) w (.returned (.bool false)) w := ⟨false, rfl, by simp, rfl⟩

/-- The bool b came back; all that was there is as it was. -/
def AnsK (b : Bool) (w : World) (e : Ending) (w' : World) : Prop := e = .returned (.bool b) ∧ Below w.heap.size w w'
theorem AnsK.mk {b b' : Bool} {w w' : World} (h : b' = b) (hb : Below w.heap.size w w') : AnsK b w (.returned (.bool b')) w' := ⟨by rw [h], hb⟩

theorem StrsAt.later {w w' : World} {a : Option Addr} {ss : List ByteArray} (h : StrsAt w a ss) (hb : Below w.heap.size w w') : StrsAt w' a ss := by
  intro i hi
  obtain ⟨b, o, e, hlt, hcell⟩ := h i hi
  exact ⟨b, o, e, Nat.lt_of_lt_of_le hlt hb.size, by rw [hb.cell (p := ⟨b, o + i, none⟩) hlt]; exact hcell⟩

theorem StrsAt.nil (w : World) (a : Option Addr) : StrsAt w a [] := fun _ hi => absurd hi (Nat.not_lt_zero _)

theorem StrsAt.row {w : World} {b : Nat} {t : TypeId} {ss : List ByteArray} {f : Nat → Value} (h : w.rowIs b t ss.length f) (hf : ∀ i, i < ss.length → f i = .string (ss.getD i ByteArray.empty)) :
    StrsAt w (some ⟨b, 0, none⟩) ss := fun i hi => ⟨b, 0, rfl, h.lt, by rw [Nat.zero_add, h.cell hi, hf i hi]⟩

theorem sz_of {ss : List ByteArray} (hl : ss.length ≤ 1048576) (h : ∀ i, i < ss.length → (ss.getD i ByteArray.empty).size ≤ 1048576) : Sz ss := by
  refine ⟨hl, fun i => ?_⟩
  by_cases hi : i < ss.length
  · exact h i hi
  · simp [List.getD_eq_getElem?_getD, List.getElem?_eq_none (by omega : ss.length ≤ i)]

/-- The bytes of all texts. -/
def tot (ss : List ByteArray) : Nat := (ss.map fun s => s.size).sum

theorem tot_snoc (ss : List ByteArray) (k : Nat) (h : k < ss.length) : tot (ss.take (k + 1)) = tot (ss.take k) + (ss.getD k ByteArray.empty).size := by
  have e : ss.getD k ByteArray.empty = ss[k] := by simp [List.getD_eq_getElem?_getD, h]
  rw [List.take_succ_eq_append_getElem h, e]
  unfold tot
  rw [List.map_append, List.sum_append]
  simp

set_option maxHeartbeats 400000 in
theorem sumStrs_any (a : Option Addr) (n c : Nat) (ss : List ByteArray) (w : World) (hn : n = ss.length)
    (hsz : Sz ss) (hc : StrsAt w a ss) :
    Calls Try.prog 10 #[.slice a n c] w fun e w' => ∃ z : Int, e = .returned (.int .i64 z) ∧ 0 ≤ z ∧ z ≤ 9437184 ∧ w' = w := by
  subst hn
  obtain ⟨hlen, hsz⟩ := hsz
  go_enter Try.func10, Try.ntmps10
  go_wp2
  go_loop [3, 4] (fun t ix => ∃ (k : Nat) (m : Int), k ≤ ss.length ∧ ix = .int .i64 k ∧ t = .int .i64 m ∧ 0 ≤ m ∧ m ≤ 8388608) (fun _ i => ss.length - (intOf i).toNat)
  case atStart => exact ⟨0, 8 * ss.length, Nat.zero_le _, rfl, by go_num, by omega, by omega⟩
  case round =>
    obtain ⟨k, m, hk, rfl, rfl, hm1, hm2⟩ := hrel
    by_cases hlt : k < ss.length
    · obtain ⟨b, o, rfl, hb, hcell⟩ := hc k hlt
      have hszk := hsz k
      generalize ss.getD k ByteArray.empty = sk at *
      by_cases hbig : 1048576 < m + sk.size
      · go_wp2
        go_ret
        exact ⟨_, rfl, by omega, by omega, rfl⟩
      · go_wp2
        go_round
        case rel => exact ⟨k + 1, m + sk.size, by omega, by go_num, by go_num, by omega, by omega⟩
        case measure => simp [intOf]; omega
    · go_wp2
      go_ret
      exact ⟨_, rfl, by omega, by omega, rfl⟩

set_option maxHeartbeats 400000 in
theorem bytes17_any (a : Option Addr) (n c : Nat) (ss : List ByteArray) (w : World) (hn : n = ss.length) (hc : StrsAt w a ss) :
    Calls Try.prog 17 #[.slice a n c] w (AnsB (fun b => b = true → Sz ss ∧ tot ss ≤ 1048576) w) := by
  subst hn
  by_cases hl : 1048576 < ss.length
  · go_enter Try.func17, Try.ntmps17
    go_wp2
    go_ret
    exact AnsB.no
  go_enter Try.func17, Try.ntmps17
  go_wp2
  go_loop [3, 4] (fun t i => ∃ k m : Nat, k ≤ ss.length ∧ i = .int .i64 k ∧ t = .int .i64 m ∧ m ≤ 1048576 ∧ Hid (tot (ss.take k) ≤ m ∧ ∀ j, j < k → (ss.getD j ByteArray.empty).size ≤ 1048576)) (fun _ i => ss.length - (intOf i).toNat)
  case atStart => exact ⟨0, ss.length, Nat.zero_le _, rfl, by go_num, by omega, by simp [tot], fun j hj => absurd hj (Nat.not_lt_zero _)⟩
  case round =>
    obtain ⟨k, m, hk, rfl, rfl, ht, HA⟩ := hrel
    by_cases hlt : k < ss.length
    · obtain ⟨b, o, rfl, _, hcell⟩ := hc k hlt
      clear hc
      have HT : Hid (tot (ss.take (k + 1)) = tot (ss.take k) + (ss.getD k ByteArray.empty).size) := tot_snoc ss k hlt
      have HC0 : Hid (tot (ss.take k) ≤ m) := HA.out.1
      have HB : Hid ((ss.getD k ByteArray.empty).size ≤ 1048576 → ∀ j, j < k + 1 → (ss.getD j ByteArray.empty).size ≤ 1048576) := fun h j hj => by
        by_cases e : j = k
        · subst e; exact h
        · exact HA.out.2 j (by omega)
      clear HA
      generalize ss.getD k ByteArray.empty = sk at *
      go_wp2
      · go_ret
        exact AnsB.no
      · go_ret
        exact AnsB.no
      · go_round
        case rel => exact ⟨k + 1, m + sk.size, by omega, by go_num, by go_num, by omega, by have := HT.out; have := HC0.out; omega, HB.out (by omega)⟩
        case measure => simp [intOf]; omega
    · go_wp2
      go_ret
      refine AnsB.mk true fun _ => ⟨sz_of (by omega) (fun i hi => HA.out.2 i (by omega)), ?_⟩
      have := HA.out.1
      rw [List.take_of_length_le (by omega)] at this
      omega

theorem Try.info9 : (Try.prog.info? 9).map (fun i => (i.zero, i.size, i.bytes)) = some (some (.string ⟨#[]⟩), 1, 16) := by kernel_rfl

/-- cloneStrings_b1. -/
def Cloned (w : World) (ss : List ByteArray) (e : Ending) (w' : World) : Prop :=
  ∃ a c, e = .returned (.slice a ss.length c) ∧ StrsAt w' a ss ∧ ss.length ≤ c ∧ Below w.heap.size w w'

set_option maxHeartbeats 400000 in
theorem cloneStrs_any (a : Option Addr) (n c : Nat) (ss : List ByteArray) (w : World) (hn : n = ss.length) (hlen : ss.length ≤ 1048576) (hc : StrsAt w a ss) :
    Calls Try.prog 11 #[.slice a n c] w (Cloned w ss) := by
  subst hn
  have hmk := run_make_row' (P := Try.prog) 22 9 (.string ⟨#[]⟩) 16 Try.underlying22 Try.info9 rfl .i64 .i64 ss.length (by omega) (by omega)
  have hnil := fun (w : World) (x : Option Addr) (n c : Nat) => Lib.run_eql_slice_nil (P := Try.prog) w 22 9 x n c 0 0 Try.underlying22
  match a with
  | none =>
    have h0 : ss = [] := by
      cases ss with
      | nil => rfl
      | cons x r => obtain ⟨b, o, e, _⟩ := hc 0 (by simp); cases e
    subst h0
    go_enter Try.func11, Try.ntmps11
    go_wp2
    go_ret
    exact ⟨_, _, rfl, StrsAt.nil _ _, by simp, Below.refl _ _⟩
  | some ad =>
    go_enter Try.func11, Try.ntmps11
    go_wp2
    go_loopg [4] (ss.length) (fun g i wr => ∃ k : Nat, k ≤ ss.length ∧ g = ss.length - k ∧ i = .int .i64 k ∧ Below w.heap.size w wr ∧
      wr.rowIs w.heap.size 9 ss.length (fun j => if j < k then .string (ss.getD j ByteArray.empty) else .string ⟨#[]⟩))
    case atStart => exact ⟨0, Nat.zero_le _, by omega, rfl, (Below.refl _ _).alloc (Nat.le_refl _) _, (World.rowIs_made _ _ _ _).congr (fun i _ => by simp)⟩
    case round =>
      obtain ⟨k, hk, rfl, rfl, hb, hrow⟩ := hrel
      by_cases hlt : k < ss.length
      · obtain ⟨b, o, hao, hbl, hcell⟩ := hc k hlt
        have hcell' : wr.cell? ⟨b, o + k, none⟩ = some (.string (ss.getD k ByteArray.empty)) := by rw [hb.cell (p := ⟨b, o + k, none⟩) hbl]; exact hcell
        have hfr := hrow.frozen k
        have hck := hrow.cell hlt
        cases hao
        go_wp2
        go_roundg (ss.length - (k + 1))
        case measure => omega
        case rel =>
          refine ⟨k + 1, by omega, rfl, by go_num, hb.setCell (Nat.le_refl _) _, (hrow.set k _).congr (fun i _ => ?_)⟩
          by_cases e : i = k
          · subst e; simp [hlt]
          · by_cases e2 : i < k
            · rw [if_neg e, if_pos e2, if_pos (by omega)]
            · rw [if_neg e, if_neg e2, if_neg (by omega)]
      · go_wp2
        go_ret
        exact ⟨_, _, rfl, StrsAt.row hrow (fun i hi => by rw [if_pos (by omega)]), Nat.le_refl _, hb⟩

end Go.Proofs.Qxb6600249a
