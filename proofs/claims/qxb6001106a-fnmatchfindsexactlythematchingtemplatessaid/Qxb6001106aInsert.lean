/-
  DERIVED, BY AN AI AGENT. Seat b6001106a: THE WALK of zzInsert (28).
-/
import Derived.Test.Qxb6001106aChildM
namespace Go.Proofs.Qxb6001106a
open Go.RowKit

/-- A slice of segments, in memory that no node owns. -/
def SegsAt (w : World) (own : Own) (a : Option Addr) (T : List (List ByteArray)) : Prop :=
  ∀ j, j < T.length → ∃ b o a' c, a = some ⟨b, o, none⟩ ∧ b < w.heap.size ∧ own b = none ∧ w.cell? ⟨b, o + j, none⟩ = some (.slice a' (T.getD j []).length c) ∧ StrsAt w a' (T.getD j []) ∧ (T.getD j []).length ≤ c ∧ ∀ ad, a' = some ad → own ad.block = none

theorem StrsAt.own_out {w w' : World} {own own' : Own} {a : Option Addr} {ss : List ByteArray} (h : StrsAt w a ss) (h0 : ss ≠ []) (ho : ∀ ad, a = some ad → own ad.block = none) (k : Out w own w' own') : ∀ ad, a = some ad → own' ad.block = none := by
  intro ad e
  obtain ⟨b, o, e', hlt, _⟩ := h 0 (List.length_pos_iff.2 h0)
  have := ho ad e
  rw [e] at e'; cases e'
  exact k.own _ hlt this

theorem SegsAt.out {w w' : World} {own own' : Own} {a : Option Addr} {T : List (List ByteArray)} (h : SegsAt w own a T) (h1 : ∀ j, j < T.length → T.getD j [] ≠ []) (k : Out w own w' own') : SegsAt w' own' a T := by
  intro j hj
  obtain ⟨b, o, a', c, e, hb, hob, hcell, hst, hc, ho⟩ := h j hj
  exact ⟨b, o, a', c, e, Nat.lt_of_lt_of_le hb k.size, k.own b hb hob, by rw [World.cell?_of_block (w := w) (k.block b hb hob)]; exact hcell, hst.out ho k, hc, hst.own_out (h1 j hj) ho k⟩

theorem childP_mono {N : Trie} {p : List Key} {s : List ByteArray} {q : List Key} (h : N q ≠ none) : childP N p s q ≠ none := by
  unfold childP
  cases e1 : N p with
  | none => exact h
  | some i =>
    cases e2 : N (p ++ [kindOf s]) with
    | some j => exact h
    | none =>
      by_cases h1 : q = p ++ [kindOf s]
      · simp [h1]
      · by_cases h2 : q = p
        · subst h2; simp [h1]
        · simp [h1, h2, h]

theorem hid_of {p : Prop} (h : p) : Hid p := h
theorem getD_mem_drop (T : List (List ByteArray)) (k : Nat) (h : k < T.length) : T.drop k = T.getD k [] :: T.drop (k + 1) := by
  rw [List.drop_eq_getElem_cons h, List.getD_eq_getElem?_getD, List.getElem?_eq_getElem h]; rfl
theorem kinds_snoc (T : List (List ByteArray)) (k : Nat) (h : k < T.length) : (T.take (k + 1)).map kindOf = (T.take k).map kindOf ++ [kindOf (T.getD k [])] := by
  rw [List.take_succ_eq_append_getElem h, List.map_append, List.getD_eq_getElem?_getD, List.getElem?_eq_getElem h]; rfl

/-- What zzInsert comes to. -/
def InsertPost (B0 : Nat) (w : World) (own : Own) (B : List Key → Nat) (N : Trie) (cnt : Nat) (T : List (List ByteArray)) (r : Nat) (e : Ending) (w' : World) : Prop :=
  e = .returned (.tuple #[]) ∧ ∃ own' B', Inv B0 w' own' B' (insertP N [] T r) (cnt + T.length) ∧ Out w own w' own' ∧ (∀ q, N q ≠ none → B' q = B q)

set_option maxHeartbeats 1000000 in
theorem insert_any (B0 : Nat) (w : World) (own : Own) (B : List Key → Nat) (N : Trie) (cnt : Nat) (hI : Inv B0 w own B N cnt) (hB0 : B0 ≤ w.heap.size) (hroot : N [] ≠ none) (a : Option Addr) (n c : Nat) (T : List (List ByteArray)) (r : Nat)
    (hn : n = T.length) (hT : SegsAt w own a T) (h1 : ∀ j, j < T.length → T.getD j [] ≠ []) (hz : ∀ j, j < T.length → Sz (T.getD j [])) (hcnt : cnt + T.length ≤ 1073741824) :
    Calls Try.prog 28 #[.pointer (some ⟨B [], 0, none⟩), .slice a n c, .pointer (some ⟨r, 0, none⟩)] w (InsertPost B0 w own B N cnt T r) := by
  subst hn
  have hTl : T.length ≤ 1073741824 := by omega
  go_enter Try.func28, Try.ntmps28
  go_wp2_with fail
  go_loopg [6, 7] (T.length) (fun g nd ix wr => ∃ k : Nat, k ≤ T.length ∧ g = T.length - k ∧ ix = .int .i64 k ∧ ∃ pk own' B' N' i', Hid (pk = (T.take k).map kindOf) ∧ nd = .pointer (some ⟨B' pk, 0, none⟩) ∧ Inv B0 wr own' B' N' (cnt + k) ∧ Out w own wr own' ∧ (∀ q, N q ≠ none → B' q = B q ∧ N' q ≠ none) ∧
    N' pk = some i' ∧ Hid (insertP N' pk (T.drop k) r = insertP N [] T r))
  case atStart =>
    obtain ⟨i0, hi0⟩ := Option.ne_none_iff_exists'.1 hroot
    exact ⟨0, Nat.zero_le _, rfl, rfl, [], own, B, N, i0, hid_of rfl, rfl, hI, Out.refl _ _, fun _ h => ⟨rfl, h⟩, hi0, hid_of rfl⟩
  case round =>
    obtain ⟨k, hk, rfl, rfl, pk, own', B', N', i', HPK, rfl, hI', ho', hag, hN', hins⟩ := hrel
    have HH : Hid ((∀ q, N q ≠ none → B' q = B q ∧ N' q ≠ none) ∧ N' pk = some i' ∧ insertP N' pk (T.drop k) r = insertP N [] T r) := ⟨hag, hN', hins⟩
    clear hag hN' hins
    have hB' : B0 ≤ wr.heap.size := Nat.le_trans hB0 ho'.size
    by_cases hlt : k < T.length
    · have hTr := hT.out h1 ho' k hlt
      have h1k := h1 k hlt
      have hzk := hz k hlt
      have HK : Hid ((T.take (k + 1)).map kindOf = pk ++ [kindOf (T.getD k [])]) := by rw [HPK.out]; exact kinds_snoc T k hlt
      have HD : Hid (T.drop k = T.getD k [] :: T.drop (k + 1)) := getD_mem_drop T k hlt
      generalize T.getD k [] = sk at *
      obtain ⟨b, o, a', c', rfl, hb, hob, hcell, hst, hc', hoo⟩ := hTr
      go_wp2_with fail
      refine (zzChild_any B0 wr own' B' N' (cnt + k) _ i' hI' hB' HH.out.2.1 a' _ c' sk rfl (List.length_pos_iff.2 h1k) ⟨hst, hc', hzk, hoo⟩ (by omega)).mono ?_
      intro e w2 hpost
      obtain ⟨own2, B2, rfl, hI2, ho2, hag2, hne2⟩ := hpost
      obtain ⟨i2, hi2⟩ := Option.ne_none_iff_exists'.1 hne2
      obtain ⟨b2, HB2⟩ : ∃ b2, Hid (B2 (pk ++ [kindOf sk]) = b2) := ⟨_, hid_of rfl⟩
      rw [HB2.out]
      have H2 : Hid (Inv B0 w2 own2 B2 (childP N' pk sk) (cnt + k + 1) ∧ Out wr own' w2 own2 ∧ (∀ q, N' q ≠ none → B2 q = B' q) ∧ childP N' pk sk (pk ++ [kindOf sk]) = some i2) := ⟨hI2, ho2, hag2, hi2⟩
      clear hI2 ho2 hag2 hi2 hne2 hI' hcell hst hoo
      go_wp2_with fail
      go_roundg (T.length - (k + 1))
      case measure => omega
      case rel =>
        refine ⟨k + 1, by omega, rfl, by go_num, pk ++ [kindOf sk], own2, B2, childP N' pk sk, i2, hid_of HK.out.symm, by rw [HB2.out], H2.out.1, ho'.trans H2.out.2.1, fun q hq => ?_, H2.out.2.2.2, ?_⟩
        · have g := HH.out.1 q hq
          exact ⟨(H2.out.2.2.1 q g.2).trans g.1, childP_mono g.2⟩
        · refine hid_of ?_
          rw [← HH.out.2.2, HD.out]; rfl
    · have hkT : k = T.length := by omega
      have HT : Hid (T.drop k = [] ∧ k = T.length) := ⟨List.drop_eq_nil_of_le (by omega), hkT⟩
      clear hkT
      go_wp2_with fail
      refine (setRoute_any B0 wr own' B' N' (cnt + k) pk i' hI' hB' HH.out.2.1 r).mono ?_
      rintro e w2 ⟨rfl, hI2, ho2⟩
      have HI2 : Hid (Inv B0 w2 own' B' (routeP N' pk r) (cnt + k)) := hI2
      clear hI2 hI'
      go_wp2_with fail
      go_end0
      refine ⟨rfl, own', B', ?_, ho'.trans ho2, fun q hq => (HH.out.1 q hq).1⟩
      rw [← HH.out.2.2, HT.out.1, ← HT.out.2]
      exact HI2.out

end Go.Proofs.Qxb6001106a
