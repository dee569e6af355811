/-
  DERIVED, BY AN AI AGENT. Seat b6001106a: THE WALK of FnMatchFindsExactlyTheMatchingTemplates (7).
-/
import Derived.Test.Qxb6001106aRound
namespace Go.Proofs.Qxb6001106a
open Go.RowKit

set_option maxHeartbeats 4000000 in
set_option maxRecDepth 100000 in
theorem finds_any (a a' : Option Addr) (n c n' c' : Nat) (Ts : List (List (List ByteArray))) (path : List ByteArray) (w : World) (hn : n = Ts.length) (hn' : n' = path.length) (hM : MaxOk w) (hT : TplsAt w noOwn a Ts) (hp : StrsAt w a' path) :
    Calls Try.prog 7 #[.slice a n c, .slice a' n' c'] w (AnsK true w) := by
  subst hn hn'
  go_enter Try.func7, Try.ntmps7
  go_wp2_with fail
  refine (bytes25_any noOwn a a' _ c _ c' Ts path w rfl rfl hT hp).mono ?_
  rintro e w1 ⟨bb, rfl, hb, rfl⟩
  cases bb with
  | false =>
    go_wp2_with fail
    go_ret
    exact AnsK.mk rfl (Below.refl _ _)
  | true =>
    obtain ⟨hTl, hzT, hcnt, hz⟩ := hb rfl
    clear hb
    have hpl := hz.1
    go_wp2_with fail
    refine (sizeTpls_any noOwn a _ c Ts _ rfl hTl hzT hT).mono ?_
    rintro e w2 ⟨z2, rfl, g3, g4, rfl⟩
    go_wp2_with fail
    refine (sizeStrs_any a' _ c' path _ rfl hz hp).mono ?_
    rintro e w2 ⟨z1, rfl, g1, g2, g5, rfl⟩
    clear g5
    by_cases hbig : 1048576 < z2 + z1
    · go_wp2_with fail
      go_ret
      exact AnsK.mk rfl (Below.refl _ _)
    have HZT := hid_of hzT
    have HZ := hid_of hz
    have HCNT := hid_of hcnt
    clear hzT hz hcnt
    go_wp2_with fail
    go_loopg [5] (Ts.length) (fun g ix wr => ∃ k : Nat, k ≤ Ts.length ∧ g = Ts.length - k ∧ ix = .int .i64 k ∧ Hid (∀ j, j < k → GoodT (Ts.getD j [])) ∧ wr = w2)
    case atStart => exact ⟨0, Nat.zero_le _, rfl, rfl, fun j hj => absurd hj (Nat.not_lt_zero _), rfl⟩
    case round =>
      obtain ⟨k, hk, rfl, rfl, HA, hwr⟩ := hrel
      have hwr' := hwr.symm
      clear hwr
      subst hwr'
      by_cases hlt : k < Ts.length
      · obtain ⟨b, o, x, cx, rfl, hb, _, hcell, hst, hcx⟩ := hT k hlt
        have hzk := HZT.out k hlt
        have HB : Hid (GoodT (Ts.getD k []) → ∀ j, j < k + 1 → GoodT (Ts.getD j [])) := fun h j hj => by
          by_cases e : j = k
          · subst e; exact h
          · exact HA.out j (by omega)
        obtain ⟨T, HTK⟩ : ∃ T, Hid (Ts.getD k [] = T) := ⟨_, hid_of rfl⟩
        rw [HTK.out] at hcell hst hcx hzk HB
        clear HA
        have hTk := hzk.1
        go_wp2_with fail
        refine (nonEmpty_any noOwn x _ cx T _ rfl hTk hst).mono ?_
        rintro e w3 ⟨b2, rfl, hne, rfl⟩
        cases b2 with
        | false =>
          go_wp2_with fail
          go_ret
          exact AnsK.mk rfl (Below.refl _ _)
        | true =>
          have HNE := hid_of (hne rfl)
          clear hne
          go_wp2_with fail
          refine (braceFree_any noOwn x _ cx T _ rfl hzk hst).mono ?_
          rintro e w4 ⟨b3, rfl, hbf, rfl⟩
          cases b3 with
          | false =>
            go_wp2_with fail
            go_ret
            exact AnsK.mk rfl (Below.refl _ _)
          | true =>
            have HBF := hid_of (hbf rfl)
            clear hbf
            go_wp2_with fail
            go_roundg (Ts.length - (k + 1))
            case measure => omega
            case rel => exact ⟨k + 1, by omega, rfl, by go_num, HB.out (good_of HNE.out HBF.out), rfl⟩
      · have HG : Hid (∀ j, j < Ts.length → GoodT (Ts.getD j [])) := fun j hj => HA.out j (by omega)
        have HGN : Hid (∀ q, q < Ts.length → ∀ j, j < (Ts.getD q []).length → (Ts.getD q []).getD j [] ≠ []) := fun q hq => (HG.out q hq).ne
        clear HA g1 g2 g3 g4 hbig
        go_wp2_with fail
        clear hlt hk
        refine (cloneTpls_any noOwn a _ c Ts w2 rfl hTl HZT.out hT).mono ?_
        intro e w3 hcl
        obtain ⟨a2, c2, rfl, hT3, hb3⟩ := hcl
        have hp3 := hp.later hb3
        have HM3 := hid_of (hM.later hb3)
        have HBL3 := hid_of hb3
        clear hb3 hM hT hp
        go_wp2_with fail
        refine (cloneStrs_fresh a' _ c' path w3 rfl hpl hp3).mono ?_
        intro e w8 hcl
        obtain ⟨a3, c3, rfl, hs8, hc3, hb8, _⟩ := hcl
        have hT8 := hT3.later hb8
        have HM8 := hid_of (HM3.out.later hb8)
        have HBL8 : Hid (Below w2.heap.size w2 w8) := HBL3.out.trans (hb8.mono HBL3.out.size)
        clear hb8 hT3 hp3 HM3 HBL3
        go_wp2_with fail
        refine (newNode_any w8).mono ?_
        rintro e w9 ⟨rfl, rfl⟩
        have hmk := run_make_row' (P := Try.prog) 41 42 (.pointer none) 8 Try.underlying41 Try.info42 rfl .i64 .i64 Ts.length (by omega) (by omega)
        have HST := hid_of (Round.start w8 Ts)
        have HT8 := hid_of hT8
        have HS8 := hid_of hs8
        clear hT8 hs8
        go_wp2_with fail
        obtain ⟨rt, HRT⟩ : ∃ rt, Hid (w8.heap.size + 1 = rt) := ⟨_, hid_of rfl⟩
        rw [HRT.out] at HST
        simp only [HRT.out]
        go_loopg [8] (Ts.length) (fun g ix wr => ∃ k : Nat, k ≤ Ts.length ∧ g = Ts.length - k ∧ ix = .int .i64 k ∧ ∃ R L own B N, Hid (Round w8 rt Ts k R L own B N wr))
        case atStart => exact ⟨0, Nat.zero_le _, by omega, rfl, _, _, _, _, _, HST⟩
        case round =>
          obtain ⟨k, hk, rfl, rfl, R, L, own, B, N, HR⟩ := hrel
          by_cases hlt : k < Ts.length
          · obtain ⟨b, o, x, cx, rfl, hb, _, hcell, hst, hcx⟩ := HT8.out k hlt
            have hzk := HZT.out k hlt
            have hgk := HG.out k hlt
            have hrt := HR.out.rt_ge
            have hfr : ∀ ob, (wr.alloc ob).frozen? ⟨rt, k, none⟩ = false := fun ob => (HR.out.row.alloc ob).frozen k
            have hck : ∀ ob, (wr.alloc ob).cell? ⟨rt, k, none⟩ = some (.pointer none) := fun ob => by rw [(HR.out.row.alloc ob).cell hlt, if_neg (by omega)]
            have hcell' : ∀ ob, ((wr.setCell ⟨rt, k, none⟩ (.pointer (some ⟨wr.heap.size, 0, none⟩))).alloc ob).cell? ⟨b, o + k, none⟩ = some (.slice x (Ts.getD k []).length cx) := fun ob => by
              show (stored wr rt k ob).cell? _ = _
              rw [(HR.out.pre_below ob).cell (p := ⟨b, o + k, none⟩) hb]; exact hcell
            obtain ⟨T, HTK⟩ : ∃ T, Hid (Ts.getD k [] = T) := ⟨_, hid_of rfl⟩
            rw [HTK.out] at hst hcx hzk hgk
            simp only [HTK.out] at hcell'
            clear hcell
            have HGK := hid_of hgk
            have hTk := hzk.1
            clear hgk
            go_wp2_with fail
            change Calls Try.prog 21 _ (stored wr rt k (.cells #[.int .i64 ((k : Int) + 1), .string ⟨#[]⟩, .string ⟨#[]⟩, .bool false] 46)) _
            have hIs := HR.out.pre (.cells #[.int .i64 ((k : Int) + 1), .string ⟨#[]⟩, .string ⟨#[]⟩, .bool false] 46)
            have hbs := HR.out.pre_below (.cells #[.int .i64 ((k : Int) + 1), .string ⟨#[]⟩, .string ⟨#[]⟩, .bool false] 46)
            obtain ⟨ws, HWS⟩ : ∃ ws, Hid (stored wr rt k (.cells #[.int .i64 ((k : Int) + 1), .string ⟨#[]⟩, .string ⟨#[]⟩, .bool false] 46) = ws) := ⟨_, hid_of rfl⟩
            rw [HWS.out] at hIs hbs ⊢
            refine (cloneSegs_any noOwn x _ cx T ws rfl hzk.1 hzk.2 (hst.later hbs)).mono ?_
            intro e w4 hcl
            obtain ⟨a4, c4, rfl, hT4, hc4, hb4, hf4, hf5⟩ := hcl
            have hT4' : SegsAt w4 own a4 T := hT4.freshOwn hf4 hf5 (fun y hy => hIs.own_new y hy)
            have hcn : segCount (Ts.take k) + T.length ≤ 1073741824 := by
              have e1 := segCount_snoc Ts k hlt
              have e2 := segCount_take Ts (k + 1)
              have e3 := HCNT.out
              rw [HTK.out] at e1
              omega
            have hins := insert_any w8.heap.size w4 own B N _ (hIs.later hb4) (Nat.le_trans hbs.size hb4.size) HR.out.built.root a4 T.length c4 T wr.heap.size rfl hT4' HGK.out.ne hzk.2 hcn
            rw [HR.out.root] at hins
            have HINS := hid_of hins
            have HB4 := hid_of hb4
            clear hins hb4 hT4 hT4' hf4 hf5 hIs hbs hst hcell' hcn
            go_wp2_with fail
            refine HINS.out.mono ?_
            rintro e w5 ⟨rfl, own5, B5, hI5, ho5, hag5⟩
            have HN : Hid (Round w8 rt Ts (k + 1) (fun j => if j = k then wr.heap.size else R j) (L ++ [(T, wr.heap.size)]) own5 B5 (insertP N [] T wr.heap.size) w5) := by
              have := @Round.next w8 wr rt Ts k R L own B N HR.out hlt (.string ⟨#[]⟩) (.string ⟨#[]⟩) (.bool false) w4 w5 own5 B5 (by rw [HTK.out]; exact HGK.out) (by rw [HWS.out]; exact HB4.out) (by rw [HTK.out]; exact hI5) ho5 hag5
              rw [HTK.out] at this
              exact this
            clear hI5 ho5 hag5 HINS HR HB4 HWS
            go_wp2_with fail
            go_roundg (Ts.length - (k + 1))
            case measure => omega
            case rel => exact ⟨k + 1, by omega, rfl, by go_num, _, _, _, _, _, HN⟩
          · have hke : k = Ts.length := by omega
            obtain ⟨i8, hi8⟩ := Option.ne_none_iff_exists'.1 HR.out.built.root
            have hcn : segCount (Ts.take k) ≤ 1073741824 := by
              have e2 := segCount_take Ts k
              have e3 := HCNT.out
              omega
            have hC := zzMatch_any w8.heap.size own B N _ hcn path wr [] i8 a3 path.length c3 HR.out.inv hi8 rfl hc3 (HS8.out.later HR.out.below) HZ.out (HM8.out.later HR.out.below)
            rw [HR.out.root] at hC
            have HC := hid_of hC
            have HKE := hid_of hke
            clear hC hi8 hcn hke
            go_wp2_with fail
            refine HC.out.mono ?_
            rintro e w10 ⟨rfl, hb10⟩
            have HB10 := hid_of hb10
            have HT10 : Hid (TplsAt w10 noOwn a2 Ts) := (HT8.out.later HR.out.below).later hb10
            have HS10 : Hid (StrsAt w10 a3 path) := (HS8.out.later HR.out.below).later hb10
            have HM10 : Hid (MaxOk w10) := (HM8.out.later HR.out.below).later hb10
            have HBL10 : Hid (Below w2.heap.size w2 w10) := (HBL8.out.trans (HR.out.below.mono HBL8.out.size)).trans (hb10.mono (Nat.le_trans HBL8.out.size HR.out.below.size))
            have HNONE : Hid (matchP N [] path = none → ∀ j, j < Ts.length → tmatchP (Ts.getD j []) path = false) := fun hm => HR.out.none_ HKE.out HG.out hm
            have HSOME : Hid (∀ r, matchP N [] path = some r → ∃ j, j < Ts.length ∧ r < w10.heap.size ∧ w10.cell? ⟨r, 0, none⟩ = some (.int .i64 (j + 1)) ∧ rt < w10.heap.size ∧ w10.cell? ⟨rt, j, none⟩ = some (.pointer (some ⟨r, 0, none⟩)) ∧ tmatchP (Ts.getD j []) path = true) := fun r hm => by
              obtain ⟨j, hj, rfl, ht⟩ := HR.out.some_ HKE.out HG.out hm
              have hjk : j < k := by rw [HKE.out]; exact hj
              obtain ⟨_, g2, _, g4⟩ := HR.out.at_ j hjk
              have hrt := HR.out.rt_ge.2
              refine ⟨j, hj, Nat.lt_of_lt_of_le g2 hb10.size, ?_, Nat.lt_of_lt_of_le hrt hb10.size, ?_, ht⟩
              · rw [hb10.cell (p := ⟨R j, 0, none⟩) g2]; exact g4
              · rw [hb10.cell (p := ⟨rt, j, none⟩) hrt, HR.out.row.cell hj, if_pos hjk]
            obtain ⟨mp, HMP⟩ : ∃ mp, Hid (matchP N [] path = mp) := ⟨_, hid_of rfl⟩
            rw [HMP.out] at HNONE HSOME
            rw [HMP.out]
            obtain ⟨v, HV⟩ : ∃ v, Hid (ptrO mp = .pointer v) := ⟨_, hid_of rfl⟩
            rw [HV.out]
            clear hb10 HR HST HKE HG HMP HC HT8 HS8 HM8 HBL8 hlt hk
            go_wp2_with fail
            go_loopg [11, 12] (Ts.length) (fun g sm ix wq => ∃ (q : Nat) (m : Bool), q ≤ Ts.length ∧ g = Ts.length - q ∧ ix = .int .i64 q ∧ sm = .bool m ∧ Hid (mp = none → m = false) ∧ Below w10.heap.size w10 wq)
            case atStart => exact ⟨0, false, Nat.zero_le _, by omega, rfl, rfl, fun _ => rfl, Below.refl _ _⟩
            case round =>
              obtain ⟨q, m, hq, rfl, rfl, rfl, HNM, hbq⟩ := hrel
              by_cases hlt : q < Ts.length
              · obtain ⟨b, o, x, cx, rfl, hb, _, hcell, hst, hcx⟩ := HT10.out q hlt
                have hcell' : wr.cell? ⟨b, o + q, none⟩ = some (.slice x (Ts.getD q []).length cx) := by rw [hbq.cell (p := ⟨b, o + q, none⟩) hb]; exact hcell
                have hC := tmatch_any noOwn x a3 _ cx path.length c3 (Ts.getD q []) path wr rfl rfl (HM10.out.later hbq) (HZT.out q hlt) (hst.later hbq) (HGN.out q hlt) HZ.out (HS10.out.later hbq)
                have HNQ : Hid (mp = none → tmatchP (Ts.getD q []) path = false) := fun h => HNONE.out h q hlt
                obtain ⟨T, HTK⟩ : ∃ T, Hid (Ts.getD q [] = T) := ⟨_, hid_of rfl⟩
                rw [HTK.out] at hC hcell' HNQ
                obtain ⟨m1, HM1⟩ : ∃ m1, Hid (tmatchP T path = m1) := ⟨_, hid_of rfl⟩
                rw [HM1.out] at hC HNQ
                have HC := hid_of hC
                clear hC hcell hst
                go_wp2_with fail
                refine HC.out.mono ?_
                rintro e w11 ⟨rfl, hb11⟩
                have HB11 : Hid (Below w10.heap.size w10 w11) := hbq.trans (hb11.mono hbq.size)
                clear hb11
                cases m1 with
                | true =>
                  go_wp2_with fail
                  go_roundg (Ts.length - (q + 1))
                  case measure => omega
                  case rel => exact ⟨q + 1, true, by omega, rfl, by go_num, rfl, fun h => (HNQ.out h), HB11.out⟩
                | false =>
                  go_wp2_with fail
                  go_roundg (Ts.length - (q + 1))
                  case measure => omega
                  case rel => exact ⟨q + 1, m, by omega, rfl, by go_num, rfl, HNM, HB11.out⟩
              · have HBL11 : Hid (Below w2.heap.size w2 wr) := HBL10.out.trans (hbq.mono HBL10.out.size)
                cases mp with
                | none =>
                  cases HV.out
                  have hm := HNM.out rfl
                  subst hm
                  go_wp2_with fail
                  go_ret
                  exact AnsK.mk rfl HBL11.out
                | some r =>
                  cases HV.out
                  obtain ⟨j, hj, hr, hcr, hrt, hcrt, htm⟩ := HSOME.out r rfl
                  obtain ⟨b, o, x, cx, rfl, hb, _, hcell, hst, hcx⟩ := HT10.out j hj
                  have hcell' : wr.cell? ⟨b, o + j, none⟩ = some (.slice x (Ts.getD j []).length cx) := by rw [hbq.cell (p := ⟨b, o + j, none⟩) hb]; exact hcell
                  have hcr' : wr.cell? ⟨r, 0, none⟩ = some (.int .i64 (j + 1)) := by rw [hbq.cell (p := ⟨r, 0, none⟩) hr]; exact hcr
                  have hcrt' : wr.cell? ⟨rt, j, none⟩ = some (.pointer (some ⟨r, 0, none⟩)) := by rw [hbq.cell (p := ⟨rt, j, none⟩) hrt]; exact hcrt
                  have hC := tmatch_any noOwn x a3 _ cx path.length c3 (Ts.getD j []) path wr rfl rfl (HM10.out.later hbq) (HZT.out j hj) (hst.later hbq) (HGN.out j hj) HZ.out (HS10.out.later hbq)
                  rw [htm] at hC
                  obtain ⟨T, HTK⟩ : ∃ T, Hid (Ts.getD j [] = T) := ⟨_, hid_of rfl⟩
                  rw [HTK.out] at hC hcell'
                  have HC := hid_of hC
                  have heq := neq_same42
                  have HBQ := hid_of hbq
                  clear hC hcell hst htm hcr hcrt hbq
                  go_wp2_with fail
                  refine HC.out.mono ?_
                  rintro e w11 ⟨rfl, hb11⟩
                  have HB11 : Hid (Below w2.heap.size w2 w11) := HBL11.out.trans (hb11.mono HBL11.out.size)
                  clear hb11
                  go_wp2_with fail
                  go_ret
                  exact AnsK.mk rfl HB11.out

end Go.Proofs.Qxb6001106a
