/-
  DERIVED, BY AN AI AGENT. Seat b6001106a: THE WALK of FnMatchPrefersExactLiteralRoute (8).
-/
import Derived.Test.Qxb6001106aBytes31
import Derived.Test.Qxb6001106aPrefer
import Derived.Test.Qxb6001106aTreeMatch
import Derived.LaidEqlPtr
namespace Go.Proofs.Qxb6001106a
open Go.RowKit

theorem litT_getD (path : List ByteArray) (j : Nat) (h : j < path.length) : (litT path).getD j [] = [path.getD j ByteArray.empty] := by
  simp [litT, List.getD_eq_getElem?_getD, h]
theorem litT_length (path : List ByteArray) : (litT path).length = path.length := by simp [litT]

theorem SegsAt.reown {w : World} {own : Own} {a : Option Addr} {T : List (List ByteArray)} (h : SegsAt w noOwn a T) (h1 : ∀ j, j < T.length → T.getD j [] ≠ []) (ho : ∀ x, x < w.heap.size → own x = none) : SegsAt w own a T := by
  intro j hj
  obtain ⟨b, o, a', c, e, hb, _, hcell, hst, hc, _⟩ := h j hj
  refine ⟨b, o, a', c, e, hb, ho b hb, hcell, hst, hc, fun ad e' => ?_⟩
  obtain ⟨b2, o2, e2, hlt, _⟩ := hst 0 (List.length_pos_iff.2 (h1 j hj))
  rw [e'] at e2; cases e2
  exact ho _ hlt

theorem StrsAt.free {w w' : World} {own own' : Own} {a : Option Addr} {ss : List ByteArray} (h : StrsAt w a ss) (ho : ∀ x, x < w.heap.size → own x = none) (k : Out w own w' own') : StrsAt w' a ss := by
  intro i hi
  obtain ⟨b, o, e, hlt, hcell⟩ := h i hi
  exact ⟨b, o, e, Nat.lt_of_lt_of_le hlt k.size, by rw [World.cell?_of_block (w := w) (k.block b hlt (ho b hlt))]; exact hcell⟩
theorem Out.below_free {w w' : World} {own own' : Own} (k : Out w own w' own') (ho : ∀ x, x < w.heap.size → own x = none) : Below w.heap.size w w' :=
  ⟨k.os, k.tape, k.output, k.size, fun x hx => k.block x hx (ho x hx)⟩
theorem MaxOk.free {w w' : World} {own own' : Own} (h : MaxOk w) (ho : ∀ x, x < w.heap.size → own x = none) (k : Out w own w' own') : MaxOk w' := h.later (k.below_free ho)

theorem eql_same42 (w : World) (a : Addr) : (binOp .eql 42 (.pointer (some a)) (.pointer (some a))).run Try.prog w = .ok (.bool true) w := by
  have h0 : (Try.prog.info? 46).isSome = true := by kernel_rfl
  obtain ⟨j, hj⟩ := Option.isSome_iff_exists.1 h0
  exact run_eql_ptr_same w a Try.underlying42 hj

/-- ZZMatch. -/
theorem zzMatch_any (B0 : Nat) (own : Own) (B : List Key → Nat) (N : Trie) (cnt : Nat) (hcnt : cnt ≤ 1073741824) (path : List ByteArray) (w : World) (p : List Key) (i : NI) (a : Option Addr) (n c : Nat) (hI : Inv B0 w own B N cnt) (hp : N p = some i) (hn : n = path.length) (hnc : path.length ≤ c) (hst : StrsAt w a path) (hsz : Sz path) (hM : MaxOk w) :
    Calls Try.prog 29 #[.pointer (some ⟨B p, 0, none⟩), .slice a n c] w (MatchPost w (matchP N p path)) := by
  have HC := hid_of (match_any B0 own B N cnt hcnt path w p i a n c hI hp hn hnc hst hsz hM)
  clear hI hp hn hnc hst hsz hM
  go_enter Try.func29, Try.ntmps29
  go_wp2_with fail
  refine HC.out.mono ?_
  rintro e w2 ⟨rfl, hb⟩
  obtain ⟨v, HV⟩ : ∃ v, Hid (ptrO (matchP N p path) = .pointer v) := ⟨_, hid_of rfl⟩
  rw [HV.out]
  go_wp2_with fail
  go_ret
  refine ⟨?_, hb⟩
  rw [HV.out]; rfl

set_option maxHeartbeats 2000000 in
set_option maxRecDepth 100000 in
theorem prefers_any (a a' : Option Addr) (n c n' c' : Nat) (ss : List ByteArray) (T : List (List ByteArray)) (fl : Bool) (w : World) (hn : n = ss.length) (hn' : n' = T.length) (hM : MaxOk w) (hc : StrsAt w a ss) (hT : SegsAt w noOwn a' T) :
    Calls Try.prog 8 #[.slice a n c, .slice a' n' c', .bool fl] w (AnsK true w) := by
  subst hn hn'
  go_enter Try.func8, Try.ntmps8
  go_wp2_with fail
  refine (bytes31_any noOwn a a' _ c _ c' ss T fl w rfl rfl hc hT).mono ?_
  rintro e w1 ⟨bb, rfl, hb, rfl⟩
  cases bb with
  | false =>
    go_wp2_with fail
    go_ret
    exact AnsK.mk rfl (Below.refl _ _)
  | true =>
    obtain ⟨hz, hTl, hzT⟩ := hb rfl
    clear hb
    have hsl := hz.1
    go_wp2_with fail
    refine (sizeStrs_any a _ c ss _ rfl hz hc).mono ?_
    rintro e w2 ⟨z1, rfl, g1, g2, g3, rfl⟩
    clear g3
    go_wp2_with fail
    refine (sizeSegs_any noOwn a' _ c' T _ rfl hTl hzT hT).mono ?_
    rintro e w2 ⟨z2, rfl, g3, g4, rfl⟩
    by_cases hbig : 1048576 < z1 + z2
    · go_wp2_with fail
      go_ret
      exact AnsK.mk rfl (Below.refl _ _)
    go_wp2_with fail
    refine (nonEmpty_any noOwn a' _ c' T _ rfl hTl hT).mono ?_
    rintro e w2 ⟨b2, rfl, hne, rfl⟩
    cases b2 with
    | false =>
      go_wp2_with fail
      go_ret
      exact AnsK.mk rfl (Below.refl _ _)
    | true =>
      have HNE := hid_of (hne rfl)
      have HZT := hid_of hzT
      have HZ := hid_of hz
      clear hne hzT hz g1 g2 g3 g4 hbig
      go_wp2_with fail
      go_loopg [7, 8] (T.length) (fun g sm ix wr => ∃ (k : Nat) (s : Bool), k ≤ T.length ∧ g = T.length - k ∧ ix = .int .i64 k ∧ sm = .bool s ∧ (s = true → T.length = ss.length) ∧ (s = false → Hid (T ≠ litT ss)) ∧ ∃ nq, wr = w2.drewN nq)
      case atStart =>
        refine ⟨0, decide (T.length = ss.length), Nat.zero_le _, rfl, rfl, ?_, by simp, ?_, 0, rfl⟩
        · congr 1
          rw [Bool.eq_iff_iff, beq_iff_eq, decide_eq_true_iff]
          omega
        · intro h e
          rw [decide_eq_false_iff_not] at h
          exact h (by rw [e, litT_length])
      case round =>
        obtain ⟨k, s, hk, rfl, rfl, rfl, hs1, hs2, nq, rfl⟩ := hrel
        cases s with
        | false =>
          have HNL := hs2 rfl
          clear hs1 hs2 hk
          have hbl : Below w2.heap.size w2 (w2.drewN nq) := below_drewN (Below.refl _ _) nq
          have hc4 := hc.later hbl
          have hT4 := hT.later hbl
          have hM4 := hM.later hbl
          have HBL := hid_of hbl
          clear hbl hc hT hM
          go_wp2_with fail
          generalize w2.drewN nq = w4 at *
          refine (cloneStrs_fresh a _ c ss w4 rfl hsl hc4).mono ?_
          intro e w5 hcl
          obtain ⟨a3, c3, rfl, hs5, hc3, hb5, _⟩ := hcl
          have hT5 := hT4.later hb5
          have HM5 := hid_of (hM4.later hb5)
          have HBL5 : Hid (Below w2.heap.size w2 w5) := HBL.out.trans (hb5.mono HBL.out.size)
          clear hT4 hc4 hM4 HBL hb5
          go_wp2_with fail
          refine (cloneSegs_any noOwn a' _ c' T w5 rfl hTl HZT.out hT5).mono ?_
          intro e w6 hcl
          obtain ⟨a4, c4, rfl, hT6, hc4, hb6, _⟩ := hcl
          have hs6 := hs5.later hb6
          have HM6 := hid_of (HM5.out.later hb6)
          have HBL6 : Hid (Below w2.heap.size w2 w6) := HBL5.out.trans (hb6.mono HBL5.out.size)
          clear hT5 hs5 HM5 HBL5 hb6
          have HT6 := hid_of hT6
          have hmk := run_make_row' (P := Try.prog) 29 22 (.slice none 0 0) 24 Try.underlying29 Try.info22 rfl .i64 .i64 ss.length (by omega) (by omega)
          go_wp2_with fail
          go_loopg [10] (ss.length) (fun g ix wr => ∃ k : Nat, k ≤ ss.length ∧ g = ss.length - k ∧ ix = .int .i64 k ∧ Below w6.heap.size w6 wr ∧ ∃ V : Nat → Value,
            wr.rowIs w6.heap.size 22 ss.length (fun j => if j < k then V j else .slice none 0 0) ∧ Hid (∀ j, j < k → ∃ x, V j = .slice (some ⟨x, 0, none⟩) 1 1 ∧ w6.heap.size < x ∧ x < wr.heap.size ∧ wr.cell? ⟨x, 0, none⟩ = some (.string (ss.getD j ByteArray.empty))))
          case atStart => exact ⟨0, Nat.zero_le _, by omega, rfl, (Below.refl _ _).alloc (Nat.le_refl _) _, fun _ => .slice none 0 0, (World.rowIs_made _ _ _ _).congr (fun i _ => by simp), fun j hj => absurd hj (Nat.not_lt_zero _)⟩
          case round =>
            obtain ⟨k, hk, rfl, rfl, hb, V, hrow, HV⟩ := hrel
            by_cases hlt : k < ss.length
            · obtain ⟨b, o, rfl, hbl, hcell⟩ := hs6 k hlt
              have hcell' : wr.cell? ⟨b, o + k, none⟩ = some (.string (ss.getD k ByteArray.empty)) := by rw [hb.cell (p := ⟨b, o + k, none⟩) hbl]; exact hcell
              have hbs : w6.heap.size < wr.heap.size := hrow.lt
              have hfr : ∀ ob, (wr.alloc ob).frozen? ⟨w6.heap.size, k, none⟩ = false := fun ob => (hrow.alloc ob).frozen k
              have hck : ∀ ob, (wr.alloc ob).cell? ⟨w6.heap.size, k, none⟩ = some (.slice none 0 0) := fun ob => by rw [(hrow.alloc ob).cell hlt, if_neg (by omega)]
              obtain ⟨pk, HPK⟩ : ∃ pk, Hid (ss.getD k ByteArray.empty = pk) := ⟨_, hid_of rfl⟩
              rw [HPK.out] at hcell'
              clear hcell
              go_wp2_with fail
              go_roundg (ss.length - (k + 1))
              case measure => omega
              case rel =>
                refine ⟨k + 1, by omega, rfl, by go_num, (hb.setCell (Nat.le_refl _) _).alloc (by simpa [World.setCell] using hb.size) _, fun j => if j = k then .slice (some ⟨wr.heap.size, 0, none⟩) 1 1 else V j, ((hrow.set k _).alloc _).congr (fun i _ => ?_), ?_⟩
                · by_cases e : i = k
                  · subst e; simp
                  · by_cases e2 : i < k
                    · rw [if_neg e, if_pos e2, if_pos (by omega)]; simp [e]
                    · rw [if_neg e, if_neg e2, if_neg (by omega)]
                · intro j hj
                  by_cases e : j = k
                  · subst e
                    refine ⟨wr.heap.size, by simp, hbs, by rw [size_set_alloc]; omega, ?_⟩
                    rw [HPK.out]
                    simp only [World.cell?, heap_set_alloc_new]
                    rfl
                  · obtain ⟨x, g1, g2, g3, g4⟩ := HV.out j (by omega)
                    refine ⟨x, by simp only [if_neg e]; exact g1, g2, by rw [size_set_alloc]; omega, ?_⟩
                    rw [World.cell?_of_block (w := wr) (heap_set_alloc wr _ _ _ x g3 (by show x ≠ w6.heap.size; omega))]
                    exact g4
            · have HLT : Hid (SegsAt wr noOwn (some ⟨w6.heap.size, 0, none⟩) (litT ss)) := by
                intro j hj
                rw [litT_length] at hj
                obtain ⟨x, g1, g2, g3, g4⟩ := HV.out j (by omega)
                rw [litT_getD ss j hj]
                refine ⟨w6.heap.size, 0, some ⟨x, 0, none⟩, 1, rfl, hrow.lt, rfl, ?_, ?_, Nat.le_refl _, fun _ _ => rfl⟩
                · rw [Nat.zero_add, hrow.cell hj, if_pos (by omega), g1]; rfl
                · intro i hi
                  have : i = 0 := by simp at hi; omega
                  subst this
                  exact ⟨x, 0, rfl, g3, g4⟩
              have HT7 := hid_of (HT6.out.later hb)
              have HS7 := hid_of (hs6.later hb)
              have HM7 := hid_of (HM6.out.later hb)
              have HBL7 : Hid (Below w2.heap.size w2 wr) := HBL6.out.trans (hb.mono HBL6.out.size)
              clear HT6 hs6 HM6 HBL6 hb hrow HV hT6
              go_wp2_with fail
              obtain ⟨A, HA⟩ : ∃ A : Obj, Hid (A = .cells #[.int .i64 1, .string ⟨#[]⟩, .string ⟨#[]⟩, .bool false] 46) := ⟨_, hid_of rfl⟩
              obtain ⟨C, HC⟩ : ∃ C : Obj, Hid (C = .cells #[.int .i64 2, .string ⟨#[]⟩, .string ⟨#[]⟩, .bool false] 46) := ⟨_, hid_of rfl⟩
              rw [← HA.out, ← HC.out]
              have hb8 : Below wr.heap.size wr ((wr.alloc A).alloc C) := ((Below.refl _ _).alloc (Nat.le_refl _) _).alloc (by simp) _
              have HLT8 := hid_of (HLT.out.later hb8)
              have HT8 := hid_of (HT7.out.later hb8)
              have HS8 := hid_of (HS7.out.later hb8)
              have HM8 := hid_of (HM7.out.later hb8)
              have HBL8 : Hid (Below w2.heap.size w2 ((wr.alloc A).alloc C)) := HBL7.out.trans (hb8.mono HBL7.out.size)
              clear hb8 HLT HT7 HS7 HM7 HBL7
              generalize (wr.alloc A).alloc C = w8 at *
              refine (newNode_any w8).mono ?_
              rintro e w9 ⟨rfl, rfl⟩
              have hI9 := root_inv w8
              have hb9 : Below w8.heap.size w8 (w8.alloc emptyNode) := (Below.refl _ _).alloc (Nat.le_refl _) _
              have hown9 : ∀ x, x < w8.heap.size → put noOwn w8.heap.size ([], 0) x = none := fun x hx => put_old (own := noOwn) _ _ _ (by omega)
              have HO9 : Hid (Out w8 (put noOwn w8.heap.size ([], 0)) (w8.alloc emptyNode) (put noOwn w8.heap.size ([], 0))) := Out.of_below hb9
              have HNEL : Hid (∀ j, j < (litT ss).length → (litT ss).getD j [] ≠ []) := fun j hj => by
                rw [litT_length] at hj; rw [litT_getD ss j hj]; simp
              have HZTL : Hid (∀ j, j < (litT ss).length → Sz ((litT ss).getD j [])) := fun j hj => by
                rw [litT_length] at hj; rw [litT_getD ss j hj]
                exact ⟨by simp, fun i => by
                  cases i with
                  | zero => exact HZ.out.2 j
                  | succ i => simp⟩
              clear hb9 hk hlt
              cases fl with
              | true =>
                have h1 := insert_any w8.heap.size (w8.alloc emptyNode) (put noOwn w8.heap.size ([], 0)) (fun _ => w8.heap.size) rootN 0 hI9 (by simp) (by simp [rootN]) a4 T.length c4 T (wr.heap.size + 1) rfl ((HT8.out.reown HNE.out hown9).out HNE.out HO9.out) HNE.out HZT.out (by first | omega | (rw [litT_length]; omega))
                have H1 := hid_of h1
                clear h1
                go_wp2_with fail
                refine H1.out.mono ?_
                rintro e w10 ⟨rfl, own10, B10, hI10, ho10, hag10⟩
                have HI10 := hid_of hI10
                have HO10 : Hid (Out w8 (put noOwn w8.heap.size ([], 0)) w10 own10) := HO9.out.trans ho10
                have hB10 : B10 [] = w8.heap.size := hag10 [] (by simp [rootN])
                have hr10 : insertP rootN [] T (wr.heap.size + 1) [] ≠ none := insertP_keeps _ _ _ _ _ (by simp [rootN])
                have h2 := insert_any w8.heap.size w10 own10 B10 (insertP rootN [] T (wr.heap.size + 1)) _ hI10 (Nat.le_trans (by simp) ho10.size) hr10 (some ⟨w6.heap.size, 0, none⟩) ss.length ss.length (litT ss) wr.heap.size (litT_length ss).symm ((HLT8.out.reown HNEL.out hown9).out HNEL.out HO10.out) HNEL.out HZTL.out (by rw [litT_length]; omega)
                rw [hB10] at h2
                have H2 := hid_of h2
                have HB10 := hid_of hB10
                clear h2 hI10 ho10 hag10 hB10 hr10
                go_wp2_with fail
                refine H2.out.mono ?_
                rintro e w11 ⟨rfl, own11, B11, hI11, ho11, hag11⟩
                have HO11 : Hid (Out w8 (put noOwn w8.heap.size ([], 0)) w11 own11) := HO10.out.trans ho11
                have hr11 : insertP (insertP rootN [] T (wr.heap.size + 1)) [] (litT ss) wr.heap.size [] ≠ none := insertP_keeps _ _ _ _ _ (insertP_keeps _ _ _ _ _ (by simp [rootN]))
                have hB11 : B11 [] = w8.heap.size := by rw [hag11 [] (insertP_keeps _ _ _ _ _ (by simp [rootN])), HB10.out]
                have HI11 := hid_of hI11
                have HB11 := hid_of hB11
                have HR11 := hid_of hr11
                clear hI11 ho11 hag11 hB11 hr11
                have hs11 : StrsAt w11 a3 ss := HS8.out.free hown9 HO11.out
                have HM11 : Hid (MaxOk w11) := HM8.out.free hown9 HO11.out
                have HBL11 : Hid (Below w2.heap.size w2 w11) := HBL8.out.trans ((HO11.out.below_free hown9).mono HBL8.out.size)
                have HLAW : Hid (matchP (insertP (insertP rootN [] T (wr.heap.size + 1)) [] (litT ss) wr.heap.size) [] ss = some wr.heap.size) := prefer_last rootN ss T wr.heap.size (wr.heap.size + 1) (by simp [rootN])
                obtain ⟨N11, HN11⟩ : ∃ N11, Hid (insertP (insertP rootN [] T (wr.heap.size + 1)) [] (litT ss) wr.heap.size = N11) := ⟨_, hid_of rfl⟩
                rw [HN11.out] at HI11 HR11 HLAW
                obtain ⟨i11, hi11⟩ := Option.ne_none_iff_exists'.1 HR11.out
                have HI11i := hid_of hi11
                clear hi11
                go_wp2_with fail
                refine (cloneStrs_fresh a3 _ c3 ss w11 rfl hsl hs11).mono ?_
                intro e w12 hcl
                obtain ⟨a5, c5, rfl, hs12, hc5, hb12, _⟩ := hcl
                have HC12 := hid_of (zzMatch_any w8.heap.size own11 B11 N11 _ (by rw [litT_length]; omega) ss w12 [] i11 a5 ss.length c5 (HI11.out.later hb12) HI11i.out rfl hc5 hs12 HZ.out (HM11.out.later hb12))
                rw [HB11.out, HLAW.out] at HC12
                have HBL12 : Hid (Below w2.heap.size w2 w12) := HBL11.out.trans (hb12.mono HBL11.out.size)
                clear hs12 hb12 hs11
                go_wp2_with fail
                refine HC12.out.mono ?_
                rintro e w13 ⟨rfl, hb13⟩
                have HBL13 : Hid (Below w2.heap.size w2 w13) := HBL12.out.trans (hb13.mono HBL12.out.size)
                clear hb13
                unfold ptrO
                have heq := eql_same42
                go_wp2_with fail
                go_ret
                exact AnsK.mk rfl HBL13.out
              | false =>
                have h1 := insert_any w8.heap.size (w8.alloc emptyNode) (put noOwn w8.heap.size ([], 0)) (fun _ => w8.heap.size) rootN 0 hI9 (by simp) (by simp [rootN]) (some ⟨w6.heap.size, 0, none⟩) ss.length ss.length (litT ss) wr.heap.size (litT_length ss).symm ((HLT8.out.reown HNEL.out hown9).out HNEL.out HO9.out) HNEL.out HZTL.out (by first | omega | (rw [litT_length]; omega))
                have H1 := hid_of h1
                clear h1
                go_wp2_with fail
                refine H1.out.mono ?_
                rintro e w10 ⟨rfl, own10, B10, hI10, ho10, hag10⟩
                have HI10 := hid_of hI10
                have HO10 : Hid (Out w8 (put noOwn w8.heap.size ([], 0)) w10 own10) := HO9.out.trans ho10
                have hB10 : B10 [] = w8.heap.size := hag10 [] (by simp [rootN])
                have hr10 : insertP rootN [] (litT ss) wr.heap.size [] ≠ none := insertP_keeps _ _ _ _ _ (by simp [rootN])
                have h2 := insert_any w8.heap.size w10 own10 B10 (insertP rootN [] (litT ss) wr.heap.size) _ hI10 (Nat.le_trans (by simp) ho10.size) hr10 a4 T.length c4 T (wr.heap.size + 1) rfl ((HT8.out.reown HNE.out hown9).out HNE.out HO10.out) HNE.out HZT.out (by rw [litT_length]; omega)
                rw [hB10] at h2
                have H2 := hid_of h2
                have HB10 := hid_of hB10
                clear h2 hI10 ho10 hag10 hB10 hr10
                go_wp2_with fail
                refine H2.out.mono ?_
                rintro e w11 ⟨rfl, own11, B11, hI11, ho11, hag11⟩
                have HO11 : Hid (Out w8 (put noOwn w8.heap.size ([], 0)) w11 own11) := HO10.out.trans ho11
                have hr11 : insertP (insertP rootN [] (litT ss) wr.heap.size) [] T (wr.heap.size + 1) [] ≠ none := insertP_keeps _ _ _ _ _ (insertP_keeps _ _ _ _ _ (by simp [rootN]))
                have hB11 : B11 [] = w8.heap.size := by rw [hag11 [] (insertP_keeps _ _ _ _ _ (by simp [rootN])), HB10.out]
                have HI11 := hid_of hI11
                have HB11 := hid_of hB11
                have HR11 := hid_of hr11
                clear hI11 ho11 hag11 hB11 hr11
                have hs11 : StrsAt w11 a3 ss := HS8.out.free hown9 HO11.out
                have HM11 : Hid (MaxOk w11) := HM8.out.free hown9 HO11.out
                have HBL11 : Hid (Below w2.heap.size w2 w11) := HBL8.out.trans ((HO11.out.below_free hown9).mono HBL8.out.size)
                have HLAW : Hid (matchP (insertP (insertP rootN [] (litT ss) wr.heap.size) [] T (wr.heap.size + 1)) [] ss = some wr.heap.size) := prefer_first rootN ss T wr.heap.size (wr.heap.size + 1) (by simp [rootN]) HNL.out
                obtain ⟨N11, HN11⟩ : ∃ N11, Hid (insertP (insertP rootN [] (litT ss) wr.heap.size) [] T (wr.heap.size + 1) = N11) := ⟨_, hid_of rfl⟩
                rw [HN11.out] at HI11 HR11 HLAW
                obtain ⟨i11, hi11⟩ := Option.ne_none_iff_exists'.1 HR11.out
                have HI11i := hid_of hi11
                clear hi11
                go_wp2_with fail
                refine (cloneStrs_fresh a3 _ c3 ss w11 rfl hsl hs11).mono ?_
                intro e w12 hcl
                obtain ⟨a5, c5, rfl, hs12, hc5, hb12, _⟩ := hcl
                have HC12 := hid_of (zzMatch_any w8.heap.size own11 B11 N11 _ (by rw [litT_length]; omega) ss w12 [] i11 a5 ss.length c5 (HI11.out.later hb12) HI11i.out rfl hc5 hs12 HZ.out (HM11.out.later hb12))
                rw [HB11.out, HLAW.out] at HC12
                have HBL12 : Hid (Below w2.heap.size w2 w12) := HBL11.out.trans (hb12.mono HBL11.out.size)
                clear hs12 hb12 hs11
                go_wp2_with fail
                refine HC12.out.mono ?_
                rintro e w13 ⟨rfl, hb13⟩
                have HBL13 : Hid (Below w2.heap.size w2 w13) := HBL12.out.trans (hb13.mono HBL12.out.size)
                clear hb13
                unfold ptrO
                have heq := eql_same42
                go_wp2_with fail
                go_ret
                exact AnsK.mk rfl HBL13.out
        | true =>
          have hTs := hs1 rfl
          clear hs1 hs2
          by_cases hlt : k < T.length
          · obtain ⟨b, o, x, cx, rfl, hbl, _, hcell, hst, hcx, _⟩ := hT k hlt
            obtain ⟨b1, o1, rfl, hbl1, hcell1⟩ := hc k (by omega)
            have HLIT : Hid (T = litT ss → T.getD k [] = [ss.getD k ByteArray.empty]) := fun e => by
              have := litT_getD ss k (by omega)
              rw [← e] at this; exact this
            obtain ⟨sk, HSK⟩ : ∃ sk, Hid (T.getD k [] = sk) := ⟨_, hid_of rfl⟩
            obtain ⟨pk, HPK⟩ : ∃ pk, Hid (ss.getD k ByteArray.empty = pk) := ⟨_, hid_of rfl⟩
            rw [HSK.out] at hcell hst hcx
            rw [HPK.out] at hcell1
            rw [HSK.out, HPK.out] at HLIT
            have HTS := hid_of hTs
            have hlt2 : k < ss.length := by omega
            clear hTs
            by_cases hs1 : sk.length = 1
            · have hg : ((sk.length : Int) != 1) = false := by rw [bne_eq_false_iff_eq]; omega
              have hg2 : ((1 : Int) != 1) = false := by decide
              rw [hs1] at hcell
              obtain ⟨b2, o2, rfl, hbl2, hcell2⟩ := hst 0 (by omega)
              rw [Nat.add_zero] at hcell2
              have HSO : Hid (sk = [sk.getD 0 ByteArray.empty]) := by
                match sk, hs1 with
                | [y], _ => exact hid_of rfl
              generalize sk.getD 0 ByteArray.empty = s0 at *
              cases hcmp : (s0.toList == pk.toList) with
              | true =>
                go_wp2_with fail
                go_quiet (fail)
                go_wp2_with fail
                go_roundg (T.length - (k + 1))
                case measure => omega
                case rel => exact ⟨k + 1, true, by omega, rfl, by go_num, rfl, fun _ => HTS.out, by simp, _, rfl⟩
              | false =>
                have HNL : Hid (T ≠ litT ss) := fun e => by
                  have := HLIT.out e
                  rw [HSO.out] at this
                  rw [(List.cons.inj this).1] at hcmp
                  simp at hcmp
                go_wp2_with fail
                go_quiet (fail)
                go_wp2_with fail
                go_roundg (T.length - (k + 1))
                case measure => omega
                case rel => exact ⟨k + 1, false, by omega, rfl, by go_num, rfl, by simp, fun _ => HNL, _, rfl⟩
            · have hg : ((sk.length : Int) != 1) = true := by rw [bne_iff_ne]; omega
              have HNL : Hid (T ≠ litT ss) := fun e => hs1 (by rw [HLIT.out e]; rfl)
              go_wp2_with fail
              go_quiet (fail)
              go_wp2_with fail
              go_roundg (T.length - (k + 1))
              case measure => omega
              case rel => exact ⟨k + 1, false, by omega, rfl, by go_num, rfl, by simp, fun _ => HNL, _, rfl⟩
          · go_wp2_with fail
            go_ret
            exact AnsK.mk rfl (below_drewN (Below.refl _ _) _)

end Go.Proofs.Qxb6001106a
