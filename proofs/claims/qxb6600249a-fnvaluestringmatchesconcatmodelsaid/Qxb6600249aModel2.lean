/-
  DERIVED, BY AN AI AGENT. Seat b6600249a: the model's stack: measure_b1 (14), joinTop_b1 (15).
-/
import Derived.Test.Qxb6600249aModel1
import Derived.OwnWalk
import Derived.Deep.DeepCutAuto
import Derived.Deep.RegionWith
import Derived.Deep.QuietTactic
namespace Go.Proofs.Qxb6600249a
open Go.RowKit

/-- An entry of the stack: the value, its text, its count of nodes, its weight. -/
structure It where
  p : Value
  t : ByteArray
  n : Nat
  k : Nat
def It.zero : It := ⟨.pointer none, ByteArray.empty, 0, 0⟩
def cat (U : List It) : List UInt8 := (U.map fun x => bl x.t).flatten
def nodes (U : List It) : Nat := (U.map It.n).sum
def wgt (U : List It) : Nat := (U.map fun x => x.k + 1).sum

theorem it_take (U : List It) (q : Nat) (h : q < U.length) : U.getD q It.zero ∈ U ∧ cat (U.take (q + 1)) = cat (U.take q) ++ bl (U.getD q It.zero).t ∧ nodes (U.take (q + 1)) = nodes (U.take q) + (U.getD q It.zero).n := by
  have e : U.getD q It.zero = U[q] := by simp [List.getD_eq_getElem?_getD, h]
  rw [e]
  refine ⟨List.getElem_mem h, ?_, ?_⟩
  · rw [List.take_succ_eq_append_getElem h]
    unfold cat
    rw [List.map_append, List.flatten_append]; simp
  · rw [List.take_succ_eq_append_getElem h]
    unfold nodes
    rw [List.map_append, List.sum_append]; simp

/-- What measure_b1 comes to. -/
def MPost (w : World) (U : List It) (left : Nat) (e : Ending) (w' : World) : Prop :=
  ∃ (sz wt : Nat) (ok : Bool), e = .returned (.tuple #[.int .i64 sz, .int .i64 wt, .bool ok]) ∧ w' = w ∧ (ok = true → sz = (cat U).length ∧ wt = 1 + nodes U ∧ sz ≤ left ∧ wt ≤ 4194304)

set_option maxHeartbeats 1000000 in
theorem measure_any (g2 g3 c2 c3 n fr left : Nat) (U : List It) (w : World) (hn : n = fr + U.length) (hn2 : n ≤ 1073741824) (hl : left ≤ 4194304)
    (hU : ∀ x ∈ U, x.t.size ≤ 4194304 ∧ x.n ≤ 4194304)
    (hc1 : ∀ q, q < U.length → w.cell? ⟨g2, fr + q, none⟩ = some (.string (U.getD q It.zero).t)) (hc2 : ∀ q, q < U.length → w.cell? ⟨g3, fr + q, none⟩ = some (.int .i64 (U.getD q It.zero).n)) :
    Calls Try.prog 14 #[.slice (some ⟨g2, 0, none⟩) n c2, .slice (some ⟨g3, 0, none⟩) n c3, .int .i64 fr, .int .i64 left] w (MPost w U left) := by
  subst hn
  go_enter Try.func14, Try.ntmps14
  go_wp2
  go_loopg [11, 12, 13] (U.length) (fun g sz wt ix wr => ∃ q m k : Nat, q ≤ U.length ∧ g = U.length - q ∧ ix = .int .i64 ((fr + q : Nat) : Int) ∧ sz = .int .i64 m ∧ wt = .int .i64 k ∧ m ≤ left ∧ k ≤ 4194304 ∧ Hid (m = (cat (U.take q)).length ∧ k = 1 + nodes (U.take q)) ∧ wr = w)
  case atStart => exact ⟨0, 0, 1, Nat.zero_le _, rfl, rfl, rfl, rfl, Nat.zero_le _, by omega, ⟨rfl, rfl⟩, rfl⟩
  case round =>
    obtain ⟨q, m, k, hq, rfl, rfl, rfl, rfl, hm, hk, HA, rfl⟩ := hrel
    by_cases hlt : q < U.length
    · have h1 := hc1 q hlt
      have h2 := hc2 q hlt
      have HT := hid_of (it_take U q hlt)
      have hx := hU _ HT.out.1
      clear hc1 hc2
      generalize U.getD q It.zero = x at *
      have hx1 := hx.1
      have hx2 := hx.2
      clear hx hU
      have HA2 : Hid (m + x.t.size = (cat (U.take (q + 1))).length ∧ k + x.n = 1 + nodes (U.take (q + 1))) := by
        have h3 := HA.out
        rw [HT.out.2.1, HT.out.2.2, List.length_append, bl_length]
        exact ⟨by omega, by omega⟩
      clear HA HT
      by_cases hb1 : left < m + x.t.size
      · go_wp2
        go_ret3
        exact ⟨m + x.t.size, k + x.n, false, by simp, rfl, by simp⟩
      · by_cases hb2 : 4194304 < k + x.n
        · go_wp2
          go_ret3
          exact ⟨m + x.t.size, k + x.n, false, by simp, rfl, by simp⟩
        · go_wp2
          go_roundg (U.length - (q + 1))
          case measure => omega
          case rel => exact ⟨q + 1, m + x.t.size, k + x.n, by omega, rfl, by go_num, by go_num, by go_num, by omega, by omega, HA2, rfl⟩
    · have HF : Hid (m = (cat U).length ∧ k = 1 + nodes U) := by
        have h3 := HA.out
        rw [List.take_of_length_le (by omega)] at h3
        exact h3
      clear HA
      go_wp2
      go_ret3
      exact ⟨m, k, true, rfl, rfl, fun _ => ⟨HF.out.1, HF.out.2, hm, hk⟩⟩

end Go.Proofs.Qxb6600249a
