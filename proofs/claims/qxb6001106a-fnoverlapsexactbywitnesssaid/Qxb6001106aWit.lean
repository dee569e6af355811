/-
  DERIVED, BY AN AI AGENT. Seat b6001106a: THE WALK of FnOverlapsExactByWitness (5).
-/
import Derived.Test.Qxb6001106aBuf
import Derived.Deep.DeepCutAuto
import Derived.Deep.Light
namespace Go.Proofs.Qxb6001106a
open Go.RowKit

theorem Cloned.out {w w' : World} {ss : List ByteArray} {e : Ending} (h : Cloned w ss e w') : ∃ a c, e = .returned (.slice a ss.length c) ∧ StrsAt w' a ss ∧ ss.length ≤ c ∧ Below w.heap.size w w' := h

theorem hid_rfl {α : Type} (x : α) : Hid (x = x) := rfl
theorem longer_of {x y f : ByteArray} (h : f = if x.size < y.size then y else x) : bl f = longer (bl x) (bl y) := by
  subst h
  unfold longer
  rw [bl_length, bl_length]
  split <;> rfl

/-- What the k first rounds over the inner texts add. -/
def innerTake (ss : List ByteArray) (k : Nat) : List UInt8 := setOff ((innerOf (bls ss)).take k)
theorem innerTake_succ (ss : List ByteArray) (k : Nat) (h : k + 2 < ss.length) : innerTake ss (k + 1) = (innerTake ss k ++ [120]) ++ bl (ss.getD (1 + k) ByteArray.empty) := by
  have hl : k < (innerOf (bls ss)).length := by simp [innerOf, bls]; omega
  unfold innerTake
  rw [List.take_succ_eq_append_getElem hl]
  have e : (innerOf (bls ss))[k] = bl (ss.getD (1 + k) ByteArray.empty) := by
    have := inner_succ ss k h
    unfold inner at this
    rw [List.drop_eq_getElem_cons hl] at this
    exact (List.cons.inj this).1
  rw [e]
  simp [setOff]
theorem innerTake_all (ss : List ByteArray) (k : Nat) (h : ss.length ≤ k + 2) : innerTake ss k = setOff (innerOf (bls ss)) := by
  unfold innerTake
  rw [List.take_of_length_le]
  simp [innerOf, bls]; omega

theorem bd1 {k n l : Nat} (h : k + 2 ≤ n) (hn : n ≤ 1048576) (hl : l ≤ 1048576 + k * 1048577) : l ≤ 1099513724928 := by omega
theorem bd2 {k n l : Nat} (h : k + 2 ≤ n) (hn : n ≤ 1048576) (hl : l ≤ 1099513724928 + k * 1048577) : l ≤ 2199026401280 := by omega

theorem setOff_len : ∀ ss : List ByteArray, (setOff (bls ss)).length ≤ (ss.map fun s => 16 + s.size).sum
  | [] => by simp [setOff, bls]
  | x :: r => by
    have := setOff_len r
    have e : setOff (bls (x :: r)) = 120 :: (bl x ++ setOff (bls r)) := by simp [setOff, bls]
    rw [e, List.map_cons, List.sum_cons, List.length_cons, List.length_append, bl_length]
    omega

theorem wit_part (ss : List ByteArray) (h : 2 ≤ ss.length) : (firstOf (bls ss)).length + (setOff (innerOf (bls ss))).length + (lastOf (bls ss)).length + 1 ≤ tot ss := by
  obtain ⟨x0, r, rfl⟩ : ∃ x0 r, ss = x0 :: r := by
    cases ss with
    | nil => simp at h
    | cons x r => exact ⟨x, r, rfl⟩
  rcases List.eq_nil_or_concat r with rfl | ⟨mid, xl, rfl⟩
  · simp at h
  have e1 : innerOf (bls (x0 :: mid.concat xl)) = bls mid := by
    simp [innerOf, bls]
  have e2 : firstOf (bls (x0 :: mid.concat xl)) = bl x0 := rfl
  have e3 : lastOf (bls (x0 :: mid.concat xl)) = bl xl := by
    simp only [lastOf, bls, List.concat_eq_append, List.map_cons, List.map_append, List.map_nil]
    rw [List.getLastD_eq_getLast?, ← List.cons_append, List.getLast?_append]
    rfl
  have e4 : tot (x0 :: mid.concat xl) = 24 + ((16 + x0.size) + ((mid.map fun s => 16 + s.size).sum + (16 + xl.size))) := by
    simp [tot]
  have := setOff_len mid
  rw [e1, e2, e3, e4, bl_length, bl_length]
  omega

theorem longer_len (a b : List UInt8) : (longer a b).length ≤ a.length + b.length := by
  unfold longer; split <;> omega

theorem wit_len (ss ss' : List ByteArray) (h : 2 ≤ ss.length) (h' : 2 ≤ ss'.length) : (witness (bls ss) (bls ss')).length ≤ tot ss + tot ss' := by
  have h1 := wit_part ss h
  have h2 := wit_part ss' h'
  have h3 := longer_len (firstOf (bls ss)) (firstOf (bls ss'))
  have h4 := longer_len (lastOf (bls ss)) (lastOf (bls ss'))
  unfold witness
  simp only [List.length_append, List.length_cons]
  omega

set_option maxHeartbeats 1000000 in
set_option maxRecDepth 100000 in
theorem witness_any (a a' : Option Addr) (n c n' c' : Nat) (ss ss' : List ByteArray) (w : World) (hn : n = ss.length) (hn' : n' = ss'.length) (hM : MaxOk w) (hc : StrsAt w a ss) (hc' : StrsAt w a' ss') :
    Calls Try.prog 5 #[.slice a n c, .slice a' n' c'] w (AnsK true w) := by
  subst hn hn'
  go_enter Try.func5, Try.ntmps5
  go_wp2_with fail
  refine (bytes15_any a a' _ c _ c' ss ss' w rfl rfl hc hc').mono ?_
  rintro e w1 ⟨bb, rfl, hb, rfl⟩
  cases bb with
  | false =>
    go_wp2_with fail
    go_ret
    exact AnsK.mk rfl (Below.refl _ _)
  | true =>
    obtain ⟨hz, hz'⟩ := hb rfl
    clear hb
    have HSZ : Hid (Sz ss ∧ Sz ss') := ⟨hz, hz'⟩
    have HZ := hz.1
    have HZ' := hz'.1
    go_wp2_with fail
    refine (sizeStrs_any a _ c ss _ rfl hz hc).mono ?_
    rintro e w2 ⟨z1, rfl, g1, g2, g3, rfl⟩
    have HT1 : Hid (z1 ≤ 1048576 → z1 = tot ss) := g3
    clear g3
    go_wp2_with fail
    refine (sizeStrs_any a' _ c' ss' _ rfl hz' hc').mono ?_
    rintro e w2 ⟨z2, rfl, g3, g4, g5, rfl⟩
    have HT2 : Hid (z2 ≤ 1048576 → z2 = tot ss') := g5
    clear g5
    by_cases hbig : 1048576 < z1 + z2
    · go_wp2_with fail
      go_ret
      exact AnsK.mk rfl (Below.refl _ _)
    by_cases hs2 : (ss.length : Int) < 2
    · go_wp2_with fail
      go_ret
      exact AnsK.mk rfl (Below.refl _ _)
    by_cases ho2 : (ss'.length : Int) < 2
    · go_wp2_with fail
      go_ret
      exact AnsK.mk rfl (Below.refl _ _)
    have ht1 := HT1.out (by omega)
    have ht2 := HT2.out (by omega)
    have HT : Hid (tot ss + tot ss' ≤ 1048576) := by show tot ss + tot ss' ≤ 1048576; omega
    clear HT1 HT2 ht1 ht2
    go_wp2_with fail
    refine (cloneStrs_any a _ c ss _ rfl (by omega) hc).mono ?_
    intro e w3 hcl
    obtain ⟨a3, c3, rfl, hs3, hc3, hb3⟩ := hcl.out
    clear hcl
    have hs4 := hc'.later hb3
    go_wp2_with fail
    refine (cloneStrs_any a' _ c' ss' _ rfl (by omega) hs4).mono ?_
    intro e wc hcl
    obtain ⟨a4, c4, rfl, hs5, hc4, hb4⟩ := hcl.out
    clear hcl
    have hs6 := hs3.later hb4
    have hMc := (hM.later hb3).later hb4
    have HB : Hid (Below w2.heap.size w2 wc) := hb3.trans (hb4.mono hb3.size)
    clear hs4 hb3 hb4 hs3 hc hc' hM
    obtain ⟨b5, o5, rfl, hbl5, r5⟩ := hs6.row_at (by omega)
    obtain ⟨b6, o6, rfl, hbl6, r6⟩ := hs5.row_at (by omega)
    have f0 := r5 0 (by omega)
    have f1 := r6 0 (by omega)
    have l0 := r5 (ss.length - 1) (by omega)
    have l1 := r6 (ss'.length - 1) (by omega)
    rw [Nat.add_zero] at f0 f1
    have zx0 := hz.2 0
    have zy0 := hz'.2 0
    have zxl := hz.2 (ss.length - 1)
    have zyl := hz'.2 (ss'.length - 1)
    have F1 := bls_first ss (by omega)
    have F2 := bls_first ss' (by omega)
    have L1 := bls_last ss (by omega)
    have L2 := bls_last ss' (by omega)
    have HR : Hid (RowAt wc b5 o5 ss ∧ RowAt wc b6 o6 ss') := ⟨r5, r6⟩
    clear r5 r6
    generalize ss.getD 0 ByteArray.empty = x0 at *
    generalize ss'.getD 0 ByteArray.empty = y0 at *
    generalize ss.getD (ss.length - 1) ByteArray.empty = xl at *
    generalize ss'.getD (ss'.length - 1) ByteArray.empty = yl at *
    have HF : Hid (firstOf (bls ss) = bl x0 ∧ firstOf (bls ss') = bl y0 ∧ lastOf (bls ss) = bl xl ∧ lastOf (bls ss') = bl yl) := ⟨F1, F2, L1, L2⟩
    clear F1 F2 L1 L2
    go_upto_if 43 with fail
    go_cut [5] (fun f wr => (∃ fx : ByteArray, f = .string fx ∧ fx.size ≤ 1048576 ∧ Hid (bl fx = longer (bl x0) (bl y0))) ∧ wr = wc)
    case first =>
      by_cases hcond : x0.size < y0.size
      · go_wp2_with fail
        go_meet
        case rel => exact ⟨⟨y0, rfl, zy0, longer_of (by rw [if_pos hcond])⟩, rfl⟩
      · go_wp2_with fail
        go_meet
        case rel => exact ⟨⟨x0, rfl, zx0, longer_of (by rw [if_neg hcond])⟩, rfl⟩
    case rest =>
      obtain ⟨⟨fx, rfl, hfx, HFX⟩, rfl⟩ := hcut
      go_upto_if 62 with fail
      go_cut [6] (fun f wr => (∃ fx : ByteArray, f = .string fx ∧ fx.size ≤ 1048576 ∧ Hid (bl fx = longer (bl xl) (bl yl))) ∧ wr = wc)
      case first =>
        by_cases hcond : xl.size < yl.size
        · go_wp2_with fail
          go_meet
          case rel => exact ⟨⟨yl, rfl, zyl, longer_of (by rw [if_pos hcond])⟩, rfl⟩
        · go_wp2_with fail
          go_meet
          case rel => exact ⟨⟨xl, rfl, zxl, longer_of (by rw [if_neg hcond])⟩, rfl⟩
      case rest =>
        obtain ⟨⟨lx, rfl, hlx, HLX⟩, rfl⟩ := hcut
        have hnil : Buf wc wc.heap.size (.slice none 0 0) [] := Buf.nil _ _
        have hs2' : 2 ≤ ss.length := by omega
        have ho2' : 2 ≤ ss'.length := by omega
        clear hs2 ho2 hbig hz hz' g1 g2 g3 g4 zx0 zy0 zxl zyl f0 f1 l0 l1
        go_wp2_with (at_builtin; refine wp_app_str rfl _ _ rfl wc.heap.size (.slice none 0 0) [] fx hnil rfl rfl ?_ ?_ ?_)
        · simp; omega
        · exact Nat.le_refl _
        intro v1 w4 hbuf hb4
        clear hnil
        go_wp2_with fail
        go_loopg [7, 8] (ss.length) (fun g v i wr => ∃ k : Nat, k + 2 ≤ ss.length ∧ g = ss.length - k ∧ i = .int .i64 (1 + k : Nat) ∧ Below wc.heap.size wc wr ∧ ∃ l : List UInt8, Hid (l = bl fx ++ innerTake ss k) ∧ Buf wr wc.heap.size v l ∧ l.length ≤ 1048576 + k * 1048577)
        case atStart => exact ⟨0, by omega, by omega, rfl, hb4, bl fx, by simp [Hid, innerTake, setOff], hbuf, by rw [bl_length]; omega⟩
        case round =>
          obtain ⟨k, hk, rfl, rfl, hbw, l0, HL0, hbuf2, hlen⟩ := hrel
          clear hbuf hb4
          by_cases hlt : k + 2 < ss.length
          · have hck : wr.cell? ⟨b5, o5 + (1 + k), none⟩ = some (.string (ss.getD (1 + k) ByteArray.empty)) := by
              rw [hbw.cell (p := ⟨b5, o5 + (1 + k), none⟩) hbl5]; exact HR.out.1 (1 + k) (by omega)
            have HI : Hid (innerTake ss (k + 1) = (innerTake ss k ++ [120]) ++ bl (ss.getD (1 + k) ByteArray.empty)) := innerTake_succ ss k hlt
            have hsk := HSZ.out.1.2 (1 + k)
            generalize ss.getD (1 + k) ByteArray.empty = sk at *
            go_wp2_with (at_builtin; refine wp_app_byte rfl _ _ rfl wc.heap.size _ l0 120 wr.heap.size 1 (hbuf2.alloc _) rfl rfl ?_ ?_ ?_ ?_)
            · simp [World.cell?_alloc_at]
            · omega
            · simp; exact Nat.le_succ_of_le hbw.size
            intro v2 w5 hb5 hw5
            have hbw5 : Below wc.heap.size wc w5 := (hbw.alloc hbw.size _).trans hw5
            have hck5 : w5.cell? ⟨b5, o5 + (1 + k), none⟩ = some (.string sk) := by
              rw [hw5.cell (p := ⟨b5, o5 + (1 + k), none⟩) hbl5, World.cell?_alloc_past _ _ _ (Nat.lt_of_lt_of_le hbl5 hbw.size)]; exact hck
            have hsz5 : wc.heap.size ≤ w5.heap.size := hbw5.size
            have hl5 : (l0 ++ [120]).length = l0.length + 1 := by simp
            obtain ⟨l1, HL1⟩ : ∃ l1, Hid (l0 ++ [120] = l1) := ⟨_, hid_rfl _⟩
            rw [HL1.out] at hb5 hl5
            go_wp2_with (at_builtin; refine wp_app_str rfl _ _ rfl wc.heap.size _ l1 sk hb5 rfl rfl ?_ ?_ ?_)
            · omega
            · exact hsz5
            intro v3 w6 hb6 hw6
            go_wp2_with fail
            go_roundg (ss.length - (k + 1))
            case measure => omega
            case rel =>
              have e : l1 ++ bl sk = bl fx ++ innerTake ss (k + 1) := by rw [HI.out, ← HL1.out, HL0.out]; simp
              refine ⟨k + 1, by omega, rfl, by go_num, hbw5.trans hw6, _, e, hb6, ?_⟩
              rw [List.length_append, bl_length]; omega
          · rw [innerTake_all ss k (by omega)] at HL0
            have hlen0 : l0.length ≤ 1099513724928 := bd1 hk HZ hlen
            clear hlen
            go_wp2_with fail
            go_loopg [7, 9] (ss'.length) (fun g v i wr => ∃ k : Nat, k + 2 ≤ ss'.length ∧ g = ss'.length - k ∧ i = .int .i64 (1 + k : Nat) ∧ Below wc.heap.size wc wr ∧ ∃ l : List UInt8, Hid (l = l0 ++ innerTake ss' k) ∧ Buf wr wc.heap.size v l ∧ l.length ≤ 1099513724928 + k * 1048577)
            case atStart => exact ⟨0, by omega, by omega, rfl, hbw, l0, by simp [Hid, innerTake, setOff], hbuf2, by omega⟩
            case round =>
              clear hbuf2 hbw hk hlt
              obtain ⟨k, hk, rfl, rfl, hbw, l2, HL2, hbuf2, hlen⟩ := hrel
              clear hlen0
              by_cases hlt : k + 2 < ss'.length
              · have hck : wr.cell? ⟨b6, o6 + (1 + k), none⟩ = some (.string (ss'.getD (1 + k) ByteArray.empty)) := by
                  rw [hbw.cell (p := ⟨b6, o6 + (1 + k), none⟩) hbl6]; exact HR.out.2 (1 + k) (by omega)
                have HI : Hid (innerTake ss' (k + 1) = (innerTake ss' k ++ [120]) ++ bl (ss'.getD (1 + k) ByteArray.empty)) := innerTake_succ ss' k hlt
                have hsk := HSZ.out.2.2 (1 + k)
                generalize ss'.getD (1 + k) ByteArray.empty = sk at *
                go_wp2_with (at_builtin; refine wp_app_byte rfl _ _ rfl wc.heap.size _ l2 120 wr.heap.size 1 (hbuf2.alloc _) rfl rfl ?_ ?_ ?_ ?_)
                · simp [World.cell?_alloc_at]
                · omega
                · simp; exact Nat.le_succ_of_le hbw.size
                intro v2 w5 hb5 hw5
                have hbw5 : Below wc.heap.size wc w5 := (hbw.alloc hbw.size _).trans hw5
                have hck5 : w5.cell? ⟨b6, o6 + (1 + k), none⟩ = some (.string sk) := by
                  rw [hw5.cell (p := ⟨b6, o6 + (1 + k), none⟩) hbl6, World.cell?_alloc_past _ _ _ (Nat.lt_of_lt_of_le hbl6 hbw.size)]; exact hck
                have hsz5 : wc.heap.size ≤ w5.heap.size := hbw5.size
                have hl5 : (l2 ++ [120]).length = l2.length + 1 := by simp
                obtain ⟨l1, HL1⟩ : ∃ l1, Hid (l2 ++ [120] = l1) := ⟨_, hid_rfl _⟩
                rw [HL1.out] at hb5 hl5
                go_wp2_with (at_builtin; refine wp_app_str rfl _ _ rfl wc.heap.size _ l1 sk hb5 rfl rfl ?_ ?_ ?_)
                · omega
                · exact hsz5
                intro v3 w6 hb6 hw6
                go_wp2_with fail
                go_roundg (ss'.length - (k + 1))
                case measure => omega
                case rel =>
                  have e : l1 ++ bl sk = l0 ++ innerTake ss' (k + 1) := by rw [HI.out, ← HL1.out, HL2.out]; simp
                  refine ⟨k + 1, by omega, rfl, by go_num, hbw5.trans hw6, _, e, hb6, ?_⟩
                  rw [List.length_append, bl_length]; omega
              · rw [innerTake_all ss' k (by omega)] at HL2
                have hlen2 : l2.length ≤ 2199026401280 := bd2 hk HZ' hlen
                clear hlen
                go_wp2_with (at_builtin; refine wp_app_byte rfl _ _ rfl wc.heap.size _ l2 120 wr.heap.size 1 (hbuf2.alloc _) rfl rfl ?_ ?_ ?_ ?_)
                · simp [World.cell?_alloc_at]
                · omega
                · simp; exact Nat.le_succ_of_le hbw.size
                intro v2 w5 hb5 hw5
                have hbw5 : Below wc.heap.size wc w5 := (hbw.alloc hbw.size _).trans hw5
                have hsz5 : wc.heap.size ≤ w5.heap.size := hbw5.size
                have hl5 : (l2 ++ [120]).length = l2.length + 1 := by simp
                obtain ⟨l1, HL1⟩ : ∃ l1, Hid (l2 ++ [120] = l1) := ⟨_, hid_rfl _⟩
                rw [HL1.out] at hb5 hl5
                go_wp2_with (at_builtin; refine wp_app_str rfl _ _ rfl wc.heap.size _ l1 lx hb5 rfl rfl ?_ ?_ ?_)
                · omega
                · exact hsz5
                intro v3 w6 hb6 hw6
                clear hbuf2 hb5 hw5
                have hbw6 : Below wc.heap.size wc w6 := hbw5.trans hw6
                have hws : (l1 ++ bl lx) = witness (bls ss) (bls ss') := by
                  rw [← HL1.out, HL2.out, HL0.out, HFX.out, HLX.out]
                  unfold witness
                  rw [HF.out.1, HF.out.2.1, HF.out.2.2.1, HF.out.2.2.2]
                  simp
                obtain ⟨ws, HW⟩ : ∃ ws : ByteArray, Hid (ws = ⟨(l1 ++ bl lx).toArray⟩ ∧ bl ws = witness (bls ss) (bls ss')) := ⟨_, rfl, by rw [← hws]; rfl⟩
                have hstr := run_string_buf hb6
                rw [← HW.out.1] at hstr
                have hwsz : ws.size ≤ 4000000000 := by
                  have := wit_len ss ss' hs2' ho2'
                  have := HT.out
                  rw [← bl_length, HW.out.2]
                  omega
                clear hb6 hws
                have hMr := hMc.later hbw6
                go_wp2_with fail
                refine (zzMatches_any (some ⟨b5, o5, none⟩) _ c3 ss ws w6 rfl hc3 hMr HSZ.out.1 hwsz hs2' (hs6.later hbw6)).mono ?_
                rintro e w7 ⟨rfl, rfl⟩
                have HEX : Hid (overlapsP (bls ss) (bls ss') = (matchesP (bls ss) (bl ws) && matchesP (bls ss') (bl ws))) := by
                  rw [HW.out.2]; exact overlaps_exact (by rw [bls_length]; exact hs2') (by rw [bls_length]; exact ho2')
                have hs7 := hs6.later hbw6
                have hs8 := hs5.later hbw6
                have HB7 : Hid (Below w2.heap.size w2 w7) := HB.out.trans (hbw6.mono HB.out.size)
                clear hstr hbw hbw5 hw6 hbw6
                generalize matchesP (bls ss) (bl ws) = m1 at *
                cases m1
                · go_wp2_with fail
                  refine (zzOverlaps_any (some ⟨b5, o5, none⟩) (some ⟨b6, o6, none⟩) _ c3 _ c4 ss ss' w7 rfl hc3 rfl hc4 hMr HSZ.out.1 HSZ.out.2 (by omega) (by omega) hs7 hs8).mono ?_
                  rintro e w8 ⟨rfl, hb8⟩
                  rw [HEX.out]
                  go_wp2_with fail
                  go_ret
                  exact AnsK.mk rfl (HB7.out.trans (hb8.mono HB7.out.size))
                · go_wp2_with fail
                  refine (zzMatches_any (some ⟨b6, o6, none⟩) _ c4 ss' ws w7 rfl hc4 hMr HSZ.out.2 hwsz ho2' hs8).mono ?_
                  rintro e w8 ⟨rfl, rfl⟩
                  generalize matchesP (bls ss') (bl ws) = m2 at *
                  go_wp2_with fail
                  refine (zzOverlaps_any (some ⟨b5, o5, none⟩) (some ⟨b6, o6, none⟩) _ c3 _ c4 ss ss' w8 rfl hc3 rfl hc4 hMr HSZ.out.1 HSZ.out.2 (by omega) (by omega) hs7 hs8).mono ?_
                  rintro e w9 ⟨rfl, hb9⟩
                  rw [HEX.out]
                  cases m2
                  · go_wp2_with fail
                    go_ret
                    exact AnsK.mk rfl (HB7.out.trans (hb9.mono HB7.out.size))
                  · go_wp2_with fail
                    go_ret
                    exact AnsK.mk rfl (HB7.out.trans (hb9.mono HB7.out.size))
end Go.Proofs.Qxb6001106a
