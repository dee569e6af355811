/-
  DERIVED, BY AN AI AGENT. Seat b6600249a: hasNul_b1 (44) and the small readers of expand (29, 31, 38 .. 43, 48).
-/
import Derived.Test.Qxb6600249aRes2
import Derived.OwnWalk
namespace Go.Proofs.Qxb6600249a
open Go.RowKit

theorem nul_iff : ∀ l : List UInt8, 0 ≤ Lib.indexByte l 0 ↔ (0 : UInt8) ∈ l
  | [] => by simp [Lib.indexByte]
  | b :: l => by
    have ih := nul_iff l
    have hge := Lib.indexByte_ge l 0
    unfold Lib.indexByte
    by_cases h : b = 0
    · subst h; simp
    · have h1 : (b == 0) = false := by simpa using h
      have h2 : ¬ (0 : UInt8) = b := fun e => h e.symm
      rw [h1, if_neg (by simp), List.mem_cons]
      by_cases h3 : Lib.indexByte l 0 = -1
      · rw [if_pos (by simpa using h3)]
        constructor
        · intro h4; omega
        · rintro (h4 | h4)
          · exact absurd h4 h2
          · have := ih.2 h4; omega
      · rw [if_neg (by simpa using h3)]
        constructor
        · intro _; exact Or.inr (ih.1 (by omega))
        · intro _; omega

/-- Whether a text holds a zero byte. -/
def nul (s : ByteArray) : Bool := decide (0 ≤ Lib.indexByte s.data.toList 0)

set_option maxHeartbeats 400000 in
theorem hasNul_any (s : ByteArray) (w : World) (hs : s.size ≤ 1048576) :
    Calls Try.prog 44 #[.string s] w (fun e w' => e = .returned (.bool (nul s)) ∧ w' = w) := by
  go_enter Try.func44, Try.ntmps44
  go_wp2
  go_loop [3] (fun i => ∃ k : Nat, k ≤ s.size ∧ i = .int .i64 k ∧ Hid (∀ j (h : j < s.size), j < k → s[j] ≠ 0)) (fun i => s.size - (intOf i).toNat)
  case atStart => exact ⟨0, Nat.zero_le _, rfl, fun j _ hj => absurd hj (Nat.not_lt_zero _)⟩
  case round =>
    obtain ⟨k, hk, rfl, HA⟩ := hrel
    by_cases hlt : k < s.size
    · by_cases h0 : s[k] = 0
      · have HN : Hid (nul s = true) := by
          unfold nul
          rw [decide_eq_true_eq, nul_iff, ← h0]
          show s.data[k] ∈ s.data.toList
          exact Array.getElem_mem_toList _
        go_wp2
        go_ret
        exact ⟨by rw [HN.out]; rfl, rfl⟩
      · have h1 : (((s[k].toNat : Nat) : Int) == 0) = false := by
          have h2 : s[k].toNat ≠ 0 := fun e => h0 (UInt8.toNat_inj.1 e)
          simp only [beq_eq_false_iff_ne, ne_eq]
          omega
        have HB : Hid (∀ j (h : j < s.size), j < k + 1 → s[j] ≠ 0) := fun j h hj => by
          by_cases e : j = k
          · subst e; exact h0
          · exact HA.out j h (by omega)
        clear h0 HA
        go_wp2
        go_round
        case rel => exact ⟨k + 1, by omega, by go_num, HB⟩
        case measure => simp [intOf]; omega
    · have HN : Hid (nul s = false) := by
        unfold nul
        rw [decide_eq_false_iff_not, nul_iff]
        intro h
        obtain ⟨j, hj, e⟩ := List.getElem_of_mem h
        have hj2 : j < s.size := by simpa using hj
        exact HA.out j hj2 (by omega) (by
          show s.data[j] = 0
          simpa using e)
      clear HA
      go_wp2
      go_ret
      exact ⟨by rw [HN.out]; rfl, rfl⟩

end Go.Proofs.Qxb6600249a
