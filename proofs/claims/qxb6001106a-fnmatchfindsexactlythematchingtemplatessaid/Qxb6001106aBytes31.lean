/-
  DERIVED, BY AN AI AGENT. Seat b6001106a: zzBytes_FnMatchPrefersExactLiteralRoute (31).
-/
import Derived.Test.Qxb6001106aSegs
namespace Go.Proofs.Qxb6001106a
open Go.RowKit

set_option maxHeartbeats 1000000 in
theorem bytes31_any (own : Own) (a a' : Option Addr) (n c n' c' : Nat) (ss : List ByteArray) (T : List (List ByteArray)) (fl : Bool) (w : World) (hn : n = ss.length) (hn' : n' = T.length)
    (hc : StrsAt w a ss) (hT : SegsAt w own a' T) :
    Calls Try.prog 31 #[.slice a n c, .slice a' n' c', .bool fl] w (AnsB (fun b => b = true → Sz ss ∧ T.length ≤ 1048576 ∧ ∀ j, j < T.length → Sz (T.getD j [])) w) := by
  subst hn hn'
  by_cases hl : 1048576 < ss.length
  · go_enter Try.func31, Try.ntmps31
    go_wp2
    go_ret
    exact AnsB.no
  go_enter Try.func31, Try.ntmps31
  go_wp2
  go_loop [7, 8] (fun t i => ∃ k m : Nat, k ≤ ss.length ∧ i = .int .i64 k ∧ t = .int .i64 m ∧ m ≤ 1048576 ∧ Hid (∀ j, j < k → (ss.getD j ByteArray.empty).size ≤ 1048576)) (fun _ i => ss.length - (intOf i).toNat)
  case atStart => exact ⟨0, ss.length, Nat.zero_le _, rfl, rfl, by omega, fun j hj => absurd hj (Nat.not_lt_zero _)⟩
  case round =>
    obtain ⟨k, m, hk, rfl, rfl, ht, HA⟩ := hrel
    by_cases hlt : k < ss.length
    · obtain ⟨b, o, rfl, _, hcell⟩ := hc k hlt
      clear hc hT
      have HB : Hid ((ss.getD k ByteArray.empty).size ≤ 1048576 → ∀ j, j < k + 1 → (ss.getD j ByteArray.empty).size ≤ 1048576) := fun h j hj => by
        by_cases e : j = k
        · subst e; exact h
        · exact HA.out j (by omega)
      generalize ss.getD k ByteArray.empty = sk at *
      go_wp2
      · go_ret
        exact AnsB.no
      · go_ret
        exact AnsB.no
      · go_round
        case rel => exact ⟨k + 1, m + sk.size, by omega, by go_num, by go_num, by omega, HB.out (by omega)⟩
        case measure => simp [intOf]; omega
    · have HZ : Hid (Sz ss) := sz_of (by omega) (fun i hi => HA.out i (by omega))
      clear HA hc
      by_cases hl' : 1048576 < T.length
      · go_wp2
        go_ret
        exact AnsB.no
      go_wp2
      · go_ret
        exact AnsB.no
      go_loop [7, 9] (fun t i => ∃ k m : Nat, k ≤ T.length ∧ i = .int .i64 k ∧ t = .int .i64 m ∧ m ≤ 1048576 ∧ Hid (∀ j, j < k → Sz (T.getD j []))) (fun _ i => T.length - (intOf i).toNat)
      case atStart => exact ⟨0, m + T.length, Nat.zero_le _, rfl, by go_num, by omega, fun j hj => absurd hj (Nat.not_lt_zero _)⟩
      case round =>
        obtain ⟨k', m', hk', rfl, rfl, ht', HA⟩ := hrel
        by_cases hlt' : k' < T.length
        · obtain ⟨b, o, x, cx, rfl, hb, hob, hcell, hst, hcx, _⟩ := hT k' hlt'
          have HB : Hid (Sz (T.getD k' []) → ∀ j, j < k' + 1 → Sz (T.getD j [])) := fun h j hj => by
            by_cases e : j = k'
            · subst e; exact h
            · exact HA.out j (by omega)
          clear HA hT
          generalize T.getD k' [] = sk at *
          by_cases hl3 : 1048576 < sk.length
          · go_wp2
            go_ret
            exact AnsB.no
          go_wp2
          · go_ret
            exact AnsB.no
          go_loop [7, 10] (fun t i => ∃ q m : Nat, q ≤ sk.length ∧ i = .int .i64 q ∧ t = .int .i64 m ∧ m ≤ 1048576 ∧ Hid (∀ j, j < q → (sk.getD j ByteArray.empty).size ≤ 1048576)) (fun _ i => sk.length - (intOf i).toNat)
          case atStart => exact ⟨0, m' + sk.length, Nat.zero_le _, rfl, by go_num, by omega, fun j hj => absurd hj (Nat.not_lt_zero _)⟩
          case round =>
            obtain ⟨q, m2, hq, rfl, rfl, ht2, HA⟩ := hrel
            by_cases hlt2 : q < sk.length
            · obtain ⟨b2, o2, rfl, _, hcell2⟩ := hst q hlt2
              have HB2 : Hid ((sk.getD q ByteArray.empty).size ≤ 1048576 → ∀ j, j < q + 1 → (sk.getD j ByteArray.empty).size ≤ 1048576) := fun h j hj => by
                by_cases e : j = q
                · subst e; exact h
                · exact HA.out j (by omega)
              clear hst
              generalize sk.getD q ByteArray.empty = tq at *
              go_wp2
              · go_ret
                exact AnsB.no
              · go_ret
                exact AnsB.no
              · go_round
                case rel => exact ⟨q + 1, m2 + tq.size, by omega, by go_num, by go_num, by omega, HB2.out (by omega)⟩
                case measure => simp [intOf]; omega
            · have HZ2 : Hid (Sz sk) := sz_of (by omega) (fun i hi => HA.out i (by omega))
              clear HA hst
              go_wp2
              go_round
              case rel => exact ⟨k' + 1, m2, by omega, by go_num, rfl, by omega, HB.out HZ2.out⟩
              case measure => simp [intOf]; omega
        · go_wp2
          go_ret
          exact AnsB.mk true fun _ => ⟨HZ.out, by omega, fun j hj => HA.out j (by omega)⟩

end Go.Proofs.Qxb6001106a
