/-
  DERIVED, BY AN AI AGENT. Seat b6001106a: slices of templates: zzBytes_FnMatchFinds.. (25), zzSizeTemplates (26), zzHasBrace (34), zzSegsBraceFree (20), zzTemplateMatches (30).
-/
import Derived.Test.Qxb6001106aSegs
import Derived.Test.Qxb6001106aFinds
namespace Go.Proofs.Qxb6001106a
open Go.RowKit

/-- A slice of templates, in memory that no node owns. -/
def TplsAt (w : World) (own : Own) (a : Option Addr) (Ts : List (List (List ByteArray))) : Prop :=
  ∀ j, j < Ts.length → ∃ b o a' c, a = some ⟨b, o, none⟩ ∧ b < w.heap.size ∧ own b = none ∧ w.cell? ⟨b, o + j, none⟩ = some (.slice a' (Ts.getD j []).length c) ∧ SegsAt w own a' (Ts.getD j []) ∧ (Ts.getD j []).length ≤ c

theorem TplsAt.later {w w' : World} {own : Own} {a : Option Addr} {Ts : List (List (List ByteArray))} (h : TplsAt w own a Ts) (hb : Below w.heap.size w w') : TplsAt w' own a Ts := by
  intro j hj
  obtain ⟨b, o, a', c, e, hbl, hob, hcell, hst, hc⟩ := h j hj
  exact ⟨b, o, a', c, e, Nat.lt_of_lt_of_le hbl hb.size, hob, by rw [hb.cell (p := ⟨b, o + j, none⟩) hbl]; exact hcell, hst.later hb, hc⟩

def TOk (T : List (List ByteArray)) : Prop := T.length ≤ 1048576 ∧ ∀ i, i < T.length → Sz (T.getD i [])
def segCount (Ts : List (List (List ByteArray))) : Nat := (Ts.map List.length).sum

theorem segCount_snoc (Ts : List (List (List ByteArray))) (k : Nat) (h : k < Ts.length) : segCount (Ts.take (k + 1)) = segCount (Ts.take k) + (Ts.getD k []).length := by
  have e : Ts.getD k [] = Ts[k] := by simp [List.getD_eq_getElem?_getD, h]
  rw [List.take_succ_eq_append_getElem h, e]
  unfold segCount
  rw [List.map_append, List.sum_append]
  simp

set_option maxHeartbeats 2000000 in
set_option maxRecDepth 100000 in
theorem bytes25_any (own : Own) (a a' : Option Addr) (n c n' c' : Nat) (Ts : List (List (List ByteArray))) (ss : List ByteArray) (w : World) (hn : n = Ts.length) (hn' : n' = ss.length)
    (hT : TplsAt w own a Ts) (hc : StrsAt w a' ss) :
    Calls Try.prog 25 #[.slice a n c, .slice a' n' c'] w (AnsB (fun b => b = true → Ts.length ≤ 1048576 ∧ (∀ j, j < Ts.length → TOk (Ts.getD j [])) ∧ segCount Ts ≤ 1048576 ∧ Sz ss) w) := by
  subst hn hn'
  by_cases hl : 1048576 < Ts.length
  · go_enter Try.func25, Try.ntmps25
    go_wp2
    go_ret
    exact AnsB.no
  go_enter Try.func25, Try.ntmps25
  go_wp2
  go_loop [5, 6] (fun t i => ∃ k m : Nat, k ≤ Ts.length ∧ i = .int .i64 k ∧ t = .int .i64 m ∧ m ≤ 1048576 ∧ Hid (segCount (Ts.take k) ≤ m ∧ ∀ j, j < k → TOk (Ts.getD j []))) (fun _ i => Ts.length - (intOf i).toNat)
  case atStart => exact ⟨0, Ts.length, Nat.zero_le _, rfl, rfl, by omega, by simp [segCount], fun j hj => absurd hj (Nat.not_lt_zero _)⟩
  case round =>
    obtain ⟨k0, m0, hk0, rfl, rfl, ht0, HA0⟩ := hrel
    by_cases hlt0 : k0 < Ts.length
    · obtain ⟨b0, o0, x0, cx0, rfl, hb0, hob0, hcell0, hT0, hcx0⟩ := hT k0 hlt0
      have HS0 : Hid (segCount (Ts.take (k0 + 1)) = segCount (Ts.take k0) + (Ts.getD k0 []).length) := segCount_snoc Ts k0 hlt0
      have HB0 : Hid (TOk (Ts.getD k0 []) → ∀ j, j < k0 + 1 → TOk (Ts.getD j [])) := fun h j hj => by
        by_cases e : j = k0
        · subst e; exact h
        · exact HA0.out.2 j (by omega)
      have HC0 : Hid (segCount (Ts.take k0) ≤ m0) := HA0.out.1
      clear HA0 hT hc
      generalize Ts.getD k0 [] = T at *
      by_cases hl' : 1048576 < T.length
      · go_wp2
        go_ret
        exact AnsB.no
      go_wp2
      · go_ret
        exact AnsB.no
      go_loop [5, 7] (fun t i => ∃ k m : Nat, k ≤ T.length ∧ i = .int .i64 k ∧ t = .int .i64 m ∧ m0 + T.length ≤ m ∧ m ≤ 1048576 ∧ Hid (∀ j, j < k → Sz (T.getD j []))) (fun _ i => T.length - (intOf i).toNat)
      case atStart => exact ⟨0, m0 + T.length, Nat.zero_le _, rfl, by go_num, by omega, by omega, fun j hj => absurd hj (Nat.not_lt_zero _)⟩
      case round =>
        obtain ⟨k', m', hk', rfl, rfl, htl, ht', HA⟩ := hrel
        by_cases hlt' : k' < T.length
        · obtain ⟨b, o, x, cx, rfl, hb, hob, hcell, hst, hcx, _⟩ := hT0 k' hlt'
          have HB : Hid (Sz (T.getD k' []) → ∀ j, j < k' + 1 → Sz (T.getD j [])) := fun h j hj => by
            by_cases e : j = k'
            · subst e; exact h
            · exact HA.out j (by omega)
          clear HA hT0
          generalize T.getD k' [] = sk at *
          by_cases hl3 : 1048576 < sk.length
          · go_wp2
            go_ret
            exact AnsB.no
          go_wp2
          · go_ret
            exact AnsB.no
          go_loop [5, 8] (fun t i => ∃ q m : Nat, q ≤ sk.length ∧ i = .int .i64 q ∧ t = .int .i64 m ∧ m' ≤ m ∧ m ≤ 1048576 ∧ Hid (∀ j, j < q → (sk.getD j ByteArray.empty).size ≤ 1048576)) (fun _ i => sk.length - (intOf i).toNat)
          case atStart => exact ⟨0, m' + sk.length, Nat.zero_le _, rfl, by go_num, by omega, by omega, fun j hj => absurd hj (Nat.not_lt_zero _)⟩
          case round =>
            obtain ⟨q, m2, hq, rfl, rfl, hml, ht2, HA⟩ := hrel
            by_cases hlt2 : q < sk.length
            · obtain ⟨b2, o2, rfl, _, hcell2⟩ := hst q hlt2
              have HB2 : Hid ((sk.getD q ByteArray.empty).size ≤ 1048576 → ∀ j, j < q + 1 → (sk.getD j ByteArray.empty).size ≤ 1048576) := fun h j hj => by
                by_cases e : j = q
                · subst e; exact h
                · exact HA.out j (by omega)
              clear hst
              generalize sk.getD q ByteArray.empty = tq at *
              go_wp2
              · go_ret
                exact AnsB.no
              · go_ret
                exact AnsB.no
              · go_round
                case rel => exact ⟨q + 1, m2 + tq.size, by omega, by go_num, by go_num, by omega, by omega, HB2.out (by omega)⟩
                case measure => simp [intOf]; omega
            · have HZ2 : Hid (Sz sk) := sz_of (by omega) (fun i hi => HA.out i (by omega))
              clear HA hst
              go_wp2
              go_round
              case rel => exact ⟨k' + 1, m2, by omega, by go_num, rfl, by omega, by omega, HB.out HZ2.out⟩
              case measure => simp [intOf]; omega
        · have HZ1 : Hid (TOk T) := ⟨by omega, fun j hj => HA.out j (by omega)⟩
          clear HA hT0
          go_wp2
          go_round
          case rel => exact ⟨k0 + 1, m', by omega, by go_num, rfl, by omega, by have := HS0.out; have := HC0.out; omega, HB0.out HZ1.out⟩
          case measure => simp [intOf]; omega
    · have HZ0 : Hid (segCount Ts ≤ 1048576 ∧ ∀ j, j < Ts.length → TOk (Ts.getD j [])) := by
        refine ⟨?_, fun j hj => HA0.out.2 j (by omega)⟩
        have := HA0.out.1
        rw [List.take_of_length_le (by omega)] at this
        omega
      clear HA0 hT
      by_cases hl' : 1048576 < ss.length
      · go_wp2
        go_ret
        exact AnsB.no
      go_wp2
      · go_ret
        exact AnsB.no
      go_loop [5, 9] (fun t i => ∃ k m : Nat, k ≤ ss.length ∧ i = .int .i64 k ∧ t = .int .i64 m ∧ m ≤ 1048576 ∧ Hid (∀ j, j < k → (ss.getD j ByteArray.empty).size ≤ 1048576)) (fun _ i => ss.length - (intOf i).toNat)
      case atStart => exact ⟨0, m0 + ss.length, Nat.zero_le _, rfl, by go_num, by omega, fun j hj => absurd hj (Nat.not_lt_zero _)⟩
      case round =>
        obtain ⟨k, m, hk, rfl, rfl, ht, HA⟩ := hrel
        by_cases hlt : k < ss.length
        · obtain ⟨b, o, rfl, _, hcell⟩ := hc k hlt
          clear hc
          have HB : Hid ((ss.getD k ByteArray.empty).size ≤ 1048576 → ∀ j, j < k + 1 → (ss.getD j ByteArray.empty).size ≤ 1048576) := fun h j hj => by
            by_cases e : j = k
            · subst e; exact h
            · exact HA.out j (by omega)
          generalize ss.getD k ByteArray.empty = sk at *
          go_wp2
          · go_ret
            exact AnsB.no
          · go_ret
            exact AnsB.no
          · go_round
            case rel => exact ⟨k + 1, m + sk.size, by omega, by go_num, by go_num, by omega, HB.out (by omega)⟩
            case measure => simp [intOf]; omega
        · go_wp2
          go_ret
          exact AnsB.mk true fun _ => ⟨by omega, HZ0.out.2, HZ0.out.1, sz_of (by omega) (fun i hi => HA.out i (by omega))⟩

set_option maxHeartbeats 400000 in
theorem sizeTpls_any (own : Own) (a : Option Addr) (n c : Nat) (Ts : List (List (List ByteArray))) (w : World) (hn : n = Ts.length) (hl : Ts.length ≤ 1048576) (hz : ∀ j, j < Ts.length → TOk (Ts.getD j [])) (hT : TplsAt w own a Ts) :
    Calls Try.prog 26 #[.slice a n c] w fun e w' => ∃ z : Int, e = .returned (.int .i64 z) ∧ 24 ≤ z ∧ z ≤ 1048577 ∧ w' = w := by
  subst hn
  go_enter Try.func26, Try.ntmps26
  go_wp2
  go_loopg [3, 4] (Ts.length) (fun g t ix wr => ∃ (k : Nat) (m : Int), k ≤ Ts.length ∧ g = Ts.length - k ∧ ix = .int .i64 k ∧ t = .int .i64 m ∧ 24 ≤ m ∧ m ≤ 1048576 ∧ wr = w)
  case atStart => exact ⟨0, 24, Nat.zero_le _, rfl, rfl, rfl, by omega, by omega, rfl⟩
  case round =>
    obtain ⟨k, m, hk, rfl, rfl, rfl, hm1, hm2, rfl⟩ := hrel
    by_cases hlt : k < Ts.length
    · obtain ⟨b, o, a', c', rfl, hb, hob, hcell, hst, hc'⟩ := hT k hlt
      have hzk := hz k hlt
      generalize Ts.getD k [] = T at *
      go_wp2_with fail
      refine (sizeSegs_any own a' _ c' T _ rfl hzk.1 hzk.2 hst).mono ?_
      rintro e w2 ⟨z1, rfl, g1, g2, rfl⟩
      by_cases hbig : 1048576 < m + z1
      · go_wp2_with fail
        go_ret
        exact ⟨_, rfl, by omega, by omega, rfl⟩
      · go_wp2_with fail
        go_roundg (Ts.length - (k + 1))
        case measure => omega
        case rel => exact ⟨k + 1, m + z1, by omega, rfl, by go_num, by go_num, by omega, by omega, rfl⟩
    · go_wp2_with fail
      go_ret
      exact ⟨_, rfl, by omega, by omega, rfl⟩

theorem bl_get (s : ByteArray) (k : Nat) (h : k < s.size) : (bl s)[k]? = some s[k] := by
  obtain ⟨⟨l⟩⟩ := s
  have : k < l.length := h
  simp [bl, this]
  rfl

set_option maxHeartbeats 400000 in
/-- zzHasBrace. -/
theorem hasBrace_any (s : ByteArray) (w : World) (hs : s.size ≤ 1048576) : Calls Try.prog 34 #[.string s] w (AnsB (fun b => b = false → NoBrace (bl s)) w) := by
  go_enter Try.func34, Try.ntmps34
  go_wp2
  go_loop [3] (fun ix => ∃ k : Nat, k ≤ s.size ∧ ix = .int .i64 k ∧ Hid (∀ j, j < k → ∀ c, (bl s)[j]? = some c → c ≠ 123 ∧ c ≠ 125)) (fun ix => s.size - (intOf ix).toNat)
  case atStart => exact ⟨0, Nat.zero_le _, rfl, fun j hj => absurd hj (Nat.not_lt_zero _)⟩
  case round =>
    obtain ⟨k, hk, rfl, HA⟩ := hrel
    by_cases hlt : k < s.size
    · have HB : Hid ((s[k].toNat : Int) ≠ 123 → (s[k].toNat : Int) ≠ 125 → ∀ j, j < k + 1 → ∀ c, (bl s)[j]? = some c → c ≠ 123 ∧ c ≠ 125) := fun h1 h2 j hj c hc => by
        by_cases e : j = k
        · subst e
          rw [bl_get s j hlt] at hc
          cases hc
          exact ⟨fun h => h1 (by rw [h]; rfl), fun h => h2 (by rw [h]; rfl)⟩
        · exact HA.out j (by omega) c hc
      go_wp2
      · go_ret
        exact AnsB.mk true (by simp)
      · go_ret
        exact AnsB.mk true (by simp)
      · rename_i h9
        have h1 : (s[k].toNat : Int) ≠ 123 := by have := h9.1; rwa [beq_eq_false_iff_ne] at this
        have h2 : (s[k].toNat : Int) ≠ 125 := by have := h9.2; rwa [beq_eq_false_iff_ne] at this
        go_round
        case rel => exact ⟨k + 1, by omega, by go_num, HB.out h1 h2⟩
        case measure => simp [intOf]; omega
    · go_wp2
      go_ret
      refine AnsB.mk false fun _ c hc => ?_
      obtain ⟨j, hj⟩ := List.getElem?_of_mem hc
      exact HA.out j (by have := (List.getElem?_eq_some_iff.1 hj).1; rw [bl_length] at this; omega) c hj

set_option maxHeartbeats 400000 in
/-- zzSegsBraceFree. -/
theorem braceFree_any (own : Own) (a : Option Addr) (n c : Nat) (T : List (List ByteArray)) (w : World) (hn : n = T.length) (hz : TOk T) (hT : SegsAt w own a T) :
    Calls Try.prog 20 #[.slice a n c] w (AnsB (fun b => b = true → ∀ j, j < T.length → ∀ i, i < (T.getD j []).length → NoBrace (bl ((T.getD j []).getD i ByteArray.empty))) w) := by
  subst hn
  have hl := hz.1
  go_enter Try.func20, Try.ntmps20
  go_wp2
  go_loopg [3] (T.length) (fun g ix wr => ∃ k : Nat, k ≤ T.length ∧ g = T.length - k ∧ ix = .int .i64 k ∧ Hid (∀ j, j < k → ∀ i, i < (T.getD j []).length → NoBrace (bl ((T.getD j []).getD i ByteArray.empty))) ∧ wr = w)
  case atStart => exact ⟨0, Nat.zero_le _, rfl, rfl, fun j hj => absurd hj (Nat.not_lt_zero _), rfl⟩
  case round =>
    obtain ⟨k, hk, rfl, rfl, HA, rfl⟩ := hrel
    by_cases hlt : k < T.length
    · obtain ⟨b, o, a', c', rfl, hb, hob, hcell, hst, hc', _⟩ := hT k hlt
      have hzk := hz.2 k hlt
      have HB : Hid ((∀ i, i < (T.getD k []).length → NoBrace (bl ((T.getD k []).getD i ByteArray.empty))) → ∀ j, j < k + 1 → ∀ i, i < (T.getD j []).length → NoBrace (bl ((T.getD j []).getD i ByteArray.empty))) := fun h j hj => by
        by_cases e : j = k
        · subst e; exact h
        · exact HA.out j (by omega)
      have HT := hid_of hT
      have HZ := hid_of hz
      clear hT HA hz
      generalize T.getD k [] = sk at *
      have hskl := hzk.1
      go_wp2_with fail
      go_loopg [4] (sk.length) (fun g ix wr' => ∃ q : Nat, q ≤ sk.length ∧ g = sk.length - q ∧ ix = .int .i64 q ∧ Hid (∀ i, i < q → NoBrace (bl (sk.getD i ByteArray.empty))) ∧ wr' = wr)
      case atStart => exact ⟨0, Nat.zero_le _, rfl, rfl, fun j hj => absurd hj (Nat.not_lt_zero _), rfl⟩
      case round =>
        obtain ⟨q, hq, rfl, rfl, HA2, rfl⟩ := hrel
        by_cases hlt2 : q < sk.length
        · obtain ⟨b2, o2, rfl, hb2, hcell2⟩ := hst q hlt2
          have hsz := hzk.2 q
          have HB2 : Hid (NoBrace (bl (sk.getD q ByteArray.empty)) → ∀ i, i < q + 1 → NoBrace (bl (sk.getD i ByteArray.empty))) := fun h j hj => by
            by_cases e : j = q
            · subst e; exact h
            · exact HA2.out j (by omega)
          generalize sk.getD q ByteArray.empty = tq at *
          go_wp2_with fail
          refine (hasBrace_any tq _ hsz).mono ?_
          rintro e w2 ⟨bb, rfl, hbb, rfl⟩
          cases bb with
          | true =>
            go_wp2_with fail
            go_ret
            exact AnsB.no
          | false =>
            have HBB := hid_of (hbb rfl)
            clear hbb
            go_wp2_with fail
            go_roundg (sk.length - (q + 1))
            case measure => omega
            case rel => exact ⟨q + 1, by omega, rfl, by go_num, HB2.out HBB.out, rfl⟩
        · have HF : Hid (∀ i, i < sk.length → NoBrace (bl (sk.getD i ByteArray.empty))) := fun i hi => HA2.out i (by omega)
          go_wp2_with fail
          go_roundg (T.length - (k + 1))
          case measure => omega
          case rel => exact ⟨k + 1, by omega, rfl, by go_num, HB.out HF.out, rfl⟩
    · go_wp2_with fail
      go_ret
      exact AnsB.mk true fun _ j hj => HA.out j (by omega)

theorem tmatch_len : ∀ (T : List (List ByteArray)) (path : List ByteArray), T.length ≠ path.length → tmatchP T path = false
  | [], [], h => absurd rfl h
  | [], _ :: _, _ => rfl
  | _ :: _, [], _ => rfl
  | s :: T, t :: path, h => by
    unfold tmatchP
    rw [tmatch_len T path (fun e => h (by simp [e])), Bool.and_false]

/-- zzTemplateMatches. -/
def TmPost (w : World) (b : Bool) (e : Ending) (w' : World) : Prop := e = .returned (.bool b) ∧ Below w.heap.size w w'
theorem TmPost.mk {w w' : World} {b b' : Bool} (h : b' = b) (hb : Below w.heap.size w w') : TmPost w b (.returned (.bool b')) w' := ⟨by rw [h], hb⟩

set_option maxHeartbeats 400000 in
theorem tmatch_any (own : Own) (a a' : Option Addr) (n c n' c' : Nat) (T : List (List ByteArray)) (path : List ByteArray) (w : World) (hn : n = T.length) (hn' : n' = path.length) (hM : MaxOk w) (hz : TOk T) (hT : SegsAt w own a T) (h1 : ∀ j, j < T.length → T.getD j [] ≠ []) (hzp : Sz path) (hp : StrsAt w a' path) :
    Calls Try.prog 30 #[.slice a n c, .slice a' n' c'] w (TmPost w (tmatchP T path)) := by
  subst hn hn'
  have hl := hz.1
  have hlp := hzp.1
  by_cases hle : T.length = path.length
  · have hb0 : ((T.length : Int) != (path.length : Int)) = false := by rw [bne_eq_false_iff_eq]; omega
    go_enter Try.func30, Try.ntmps30
    go_wp2_with fail
    go_loopg [5] (T.length) (fun g ix wr => ∃ k : Nat, k ≤ T.length ∧ g = T.length - k ∧ ix = .int .i64 k ∧ Hid (tmatchP (T.drop k) (path.drop k) = tmatchP T path) ∧ Below w.heap.size w wr)
    case atStart => exact ⟨0, Nat.zero_le _, rfl, rfl, hid_of rfl, Below.refl _ _⟩
    case round =>
      obtain ⟨k, hk, rfl, rfl, HA, hbr⟩ := hrel
      by_cases hlt : k < T.length
      · obtain ⟨b, o, x, cx, rfl, hb, hob, hcell, hst, hcx, _⟩ := hT k hlt
        obtain ⟨b2, o2, rfl, hb2, hcell2⟩ := hp k (by omega)
        have hcell' : wr.cell? ⟨b, o + k, none⟩ = some (.slice x (T.getD k []).length cx) := by rw [hbr.cell (p := ⟨b, o + k, none⟩) hb]; exact hcell
        have hcell2' : wr.cell? ⟨b2, o2 + k, none⟩ = some (.string (path.getD k ByteArray.empty)) := by rw [hbr.cell (p := ⟨b2, o2 + k, none⟩) hb2]; exact hcell2
        clear hcell hcell2
        have hzk := hz.2 k hlt
        have hsz := hzp.2 k
        have h1k := h1 k hlt
        have HD : Hid (tmatchP (T.drop k) (path.drop k) = (segMatchesP (bls (T.getD k [])) (bl (path.getD k ByteArray.empty)) && tmatchP (T.drop (k + 1)) (path.drop (k + 1)))) := by
          rw [getD_mem_drop T k hlt]
          have hkp : k < path.length := by omega
          have e2 : path.drop k = path.getD k ByteArray.empty :: path.drop (k + 1) := by
            rw [List.drop_eq_getElem_cons hkp, List.getD_eq_getElem?_getD, List.getElem?_eq_getElem hkp]; rfl
          rw [e2]; rfl
        generalize T.getD k [] = sk at *
        generalize path.getD k ByteArray.empty = tk at *
        have HC : Hid (∀ nq, Calls Try.prog 14 #[.slice x sk.length cx, .string tk] (wr.drewN nq) fun e w' => e = .returned (.bool (segMatchesP (bls sk) (bl tk))) ∧ w' = wr.drewN nq) := fun nq => by
          have hbl : Below w.heap.size w (wr.drewN nq) := below_drewN hbr nq
          exact segMatches_any x _ cx sk tk (wr.drewN nq) rfl hcx (hM.later hbl) hzk (by omega) (List.length_pos_iff.2 h1k) (hst.later hbl)
        obtain ⟨m1, HM1⟩ : ∃ m1, Hid (segMatchesP (bls sk) (bl tk) = m1) := ⟨_, hid_of rfl⟩
        rw [HM1.out] at HD HC
        have hlt' : (k : Int) < (T.length : Int) := by omega
        have hlt2 : (k : Int) < (path.length : Int) := by omega
        go_wp2_with fail
        go_quiet ((go_at_call 14; exact Calls.quiet_of_same (HC.out _)))
        cases m1 with
        | false =>
          have HF : Hid (tmatchP T path = false) := by rw [← HA.out, HD.out]; rfl
          go_wp2_with fail
          go_ret
          exact TmPost.mk HF.out.symm (below_drewN hbr _)
        | true =>
          have HF : Hid (tmatchP (T.drop (k + 1)) (path.drop (k + 1)) = tmatchP T path) := by rw [← HA.out, HD.out]; rfl
          go_wp2_with fail
          go_roundg (T.length - (k + 1))
          case measure => omega
          case rel => exact ⟨k + 1, by omega, rfl, by go_num, HF, below_drewN hbr _⟩
      · have HF : Hid (tmatchP T path = true) := by
          rw [← HA.out, List.drop_eq_nil_of_le (by omega), List.drop_eq_nil_of_le (by omega)]; rfl
        go_wp2_with fail
        go_ret
        exact TmPost.mk HF.out.symm hbr
  · have hb0 : ((T.length : Int) != (path.length : Int)) = true := by rw [bne_iff_ne]; omega
    have HF := hid_of (tmatch_len T path hle)
    clear hle
    go_enter Try.func30, Try.ntmps30
    go_wp2_with fail
    go_ret
    exact TmPost.mk HF.out.symm (Below.refl _ _)

end Go.Proofs.Qxb6001106a
