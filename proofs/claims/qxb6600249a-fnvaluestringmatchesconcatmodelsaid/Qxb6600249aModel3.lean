/-
  DERIVED, BY AN AI AGENT. Seat b6600249a: joinTop_b1 (15).
-/
import Derived.Test.Qxb6600249aModel2
namespace Go.Proofs.Qxb6600249a
open Go.RowKit

/-- What joinTop_b1 comes to. -/
def JPost (w : World) (G : Nat → Prop) (U : List It) (e : Ending) (w' : World) : Prop :=
  ∃ b, e = .returned (.tuple #[.agg #[.pointer (some ⟨b, 0, none⟩)], .string ⟨(cat U).toArray⟩]) ∧ IsV w' G (.pointer (some ⟨b, 0, none⟩)) (cat U) (wgt U + 2) ∧ Below w.heap.size w w'

theorem run_make23 (sz : Nat) (hn : sz ≤ 1073741824) (w : World) :
    (Instr.makeSlice 23 (.int .i64 0) (.int .i64 (sz : Int))).run Try.prog w = .ok (.slice (some ⟨w.heap.size, 0, none⟩) 0 sz) (w.alloc (.cells (madeCells #[.int .u8 0] sz) 5)) := by
  obtain ⟨i, hi, hz, hs, hb⟩ := Try.info5
  have hb' : (i.bytes : Int) * (sz : Int) ≤ 281474976710656 := by rw [hb]; omega
  have hr := run_make (P := Try.prog) w 23 5 i (.int .u8 0) Try.underlying23 hi hz .i64 .i64 0 sz (by omega) (by omega) hb' (by omega)
  have hzc : Value.cells (.int .u8 0) = #[.int .u8 0] := by rfl
  simp only [Int.toNat_natCast, hs, Nat.mul_one, hzc] at hr
  exact hr

theorem join_node {wr w6 : World} {G : Nat → Prop} {pb b6 sz : Nat} {U : List It} (hrow : wr.rowIs pb 32 U.length (fun j => (U.getD j It.zero).p)) (hU : ∀ x ∈ U, IsV wr G x.p (bl x.t) x.k) (hb : Below wr.heap.size wr w6)
    (h6 : w6.heap[b6]? = some (.cells #[.string ⟨#[]⟩, .slice (some ⟨pb, 0, none⟩) U.length U.length, .int .i64 sz, .bool false, .slice none 0 0] 55 (0, 0))) (hG6 : ¬ G b6) (hGp : ¬ G pb) (hsz : sz ≤ 281474976710656) :
    IsV w6 G (.pointer (some ⟨b6, 0, none⟩)) (cat U) (wgt U + 2) := by
  have hrow6 := hrow.of_block (hb.block pb hrow.lt)
  have hP := PAt.of_cells (w := w6) hGp (U.map fun x => (x.p, bl x.t, x.k)) 0 (fun j x hx => by
    rw [List.getElem?_map] at hx
    obtain ⟨y, hy, rfl⟩ := Option.map_eq_some_iff.1 hx
    have hj : j < U.length := (List.getElem?_eq_some_iff.1 hy).1
    have hy2 : U.getD j It.zero = y := by rw [List.getD_eq_getElem?_getD, hy]; rfl
    refine ⟨?_, (hU y (List.mem_of_getElem? hy)).later hb⟩
    rw [Nat.zero_add, hrow6.cell hj, hy2])
  have ht : ((U.map fun x => (x.p, bl x.t, x.k)).map fun x : Value × List UInt8 × Nat => x.2.1).flatten = cat U := by
    simp [cat, Function.comp_def]
  have hw : ((U.map fun x => (x.p, bl x.t, x.k)).map fun x : Value × List UInt8 × Nat => x.2.2 + 1).sum = wgt U := by
    simp [wgt, Function.comp_def]
  rw [ht, hw, List.length_map] at hP
  exact ⟨b6, rfl, .node b6 ⟨#[]⟩ pb 0 U.length U.length sz (.bool false) (.slice none 0 0) (cat U) _ h6 hG6 (Nat.le_refl _) hsz hP⟩

/-- The loop's state. -/
structure JS (w : World) (U : List It) (j : Nat) (v : Value) (wr : World) : Prop where
  bel : Below w.heap.size w wr
  sz : w.heap.size + 3 ≤ wr.heap.size
  res : wr.heap[w.heap.size]? = some (.cells #[.pointer none] 32 (0, 0))
  row : wr.rowIs (w.heap.size + 1) 32 U.length (fun q => if q < j then (U.getD q It.zero).p else .pointer none)
  buf : Row wr w.heap.size 5 v (Lib.byteCells (cat (U.take j)))

theorem JS.start (w : World) (U : List It) (sz : Nat) (hsz : sz ≤ 1073741824) : JS w U 0 (.slice (some ⟨w.heap.size + 1 + 1, 0, none⟩) 0 sz) (((w.alloc (.cells #[.pointer none] 32)).alloc (.cells (madeCells #[.pointer none] U.length) 32)).alloc (.cells (madeCells #[.int .u8 0] sz) 5)) := by
  have h := two_allocs w (.cells #[.pointer none] 32) (.cells (madeCells #[.pointer none] U.length) 32)
  refine ⟨(((Below.refl _ _).alloc (Nat.le_refl _) _).alloc (by simp) _).alloc (by simp; omega) _, by simp, ?_, ?_, ?_⟩
  · rw [Below.heap_alloc _ _ _ (by simp; omega)]; exact h.1
  · have hr := (World.rowIs_made (w.alloc (.cells #[.pointer none] 32)) (.pointer none) U.length 32).alloc (.cells (madeCells #[.int .u8 0] sz) 5)
    have hs : (w.alloc (.cells #[.pointer none] 32)).heap.size = w.heap.size + 1 := by simp
    rw [hs] at hr
    exact hr.congr (fun i _ => by simp)
  · have := World.ownsRow_made (base := w.heap.size) (e := 5) (size := 1) ((w.alloc (.cells #[.pointer none] 32)).alloc (.cells (madeCells #[.pointer none] U.length) 32)) (madeCells #[.int .u8 0] sz) sz (by simp; omega) (by unfold maxLen; omega) (by simp [size_madeCells])
    have e : Lib.byteCells (cat (U.take 0)) = [] := by simp [cat, Lib.byteCells]
    rw [e]
    show World.ownsRow _ _ _ _ _ 0 []
    simpa using this

theorem JS.step {w wr w' : World} {U : List It} {j : Nat} {v v' : Value} (hj : j < U.length) (h : JS w U j v wr)
    (hr : Row w' w.heap.size 5 v' (Lib.byteCells (cat (U.take j) ++ bl (U.getD j It.zero).t))) (hg : (wr.setCell ⟨w.heap.size + 1, j, none⟩ (U.getD j It.zero).p).grownBy w' v.ownBlock) : JS w U (j + 1) v' w' := by
  have hne : ∀ g, v.ownBlock = some g → g ≠ w.heap.size + 1 := fun g hv e => by
    obtain ⟨cs, fz, hb⟩ := h.buf.block g hv
    obtain ⟨c, hc, _⟩ := h.row
    rw [e, hc] at hb; cases hb
  have hblk : ∀ g, v.ownBlock = some g → ∃ cs fz, (wr.setCell ⟨w.heap.size + 1, j, none⟩ (U.getD j It.zero).p).heap[g]? = some (.cells cs 5 fz) := fun g hv => by
    obtain ⟨cs, fz, hb⟩ := h.buf.block g hv
    exact ⟨cs, fz, by rw [Below.heap_setCell _ _ _ _ (hne g hv)]; exact hb⟩
  have hs1 : (wr.setCell ⟨w.heap.size + 1, j, none⟩ (U.getD j It.zero).p).heap.size = wr.heap.size := by simp [World.setCell]
  have hb1 : Below w.heap.size w (wr.setCell ⟨w.heap.size + 1, j, none⟩ (U.getD j It.zero).p) := h.bel.setCell (by show w.heap.size ≤ w.heap.size + 1; omega) _
  refine ⟨?_, ?_, ?_, ?_, ?_⟩
  · refine hb1.grown hg (by rw [hs1]; have := h.sz; omega) (fun k hk => (World.ownsRow.lt h.buf k hk).1)
  · have := hg.size; have := h.sz; omega
  · refine other_block hg hblk ?_ (by decide)
    rw [Below.heap_setCell _ _ _ _ (by show w.heap.size ≠ w.heap.size + 1; omega)]; exact h.res
  · have hr1 := (h.row.set j (U.getD j It.zero).p)
    obtain ⟨c, hc, hc2, hc3⟩ := hr1
    refine World.rowIs.congr (f := fun i => if i = j then (U.getD j It.zero).p else if i < j then (U.getD i It.zero).p else .pointer none) ⟨c, other_block hg hblk hc (by decide), hc2, hc3⟩ (fun i _ => ?_)
    by_cases e : i = j
    · subst e; simp
    · by_cases e2 : i < j
      · rw [if_neg e, if_pos e2, if_pos (by omega)]
      · rw [if_neg e, if_neg e2, if_neg (by omega)]
  · rw [(it_take U j hj).2.1]; exact hr

theorem Row.setOther {w : World} {B b : Nat} {e e' : TypeId} {v p x : Value} {xs : List Value} (h : Row w B e v xs) (hb : w.heap[b]? = some (.cells #[p] e' (0, 0))) (hne : e' ≠ e) : Row (w.setCell ⟨b, 0, none⟩ x) B e v xs := by
  obtain ⟨h1, h2⟩ := h
  refine ⟨h1, ?_⟩
  rcases h2 with h2 | ⟨g, cap, cur, hv, hg', hh, r⟩
  · exact Or.inl h2
  · refine Or.inr ⟨g, cap, cur, hv, hg', ?_, r⟩
    rw [Below.heap_setCell _ _ _ _ (fun e1 => ?_)]
    · exact hh
    · have e2 : g = b := e1
      rw [e2, hb] at hh
      cases hh
      exact hne rfl

theorem JS.buf_set {w wr : World} {U : List It} {j : Nat} {v : Value} (h : JS w U j v wr) (x : Value) : Row (wr.setCell ⟨w.heap.size + 1, j, none⟩ x) w.heap.size 5 v (Lib.byteCells (cat (U.take j))) := by
  obtain ⟨h1, h2⟩ := h.buf
  refine ⟨h1, ?_⟩
  rcases h2 with h2 | ⟨g, cap, cur, hv, hg', hh, r⟩
  · exact Or.inl h2
  · refine Or.inr ⟨g, cap, cur, hv, hg', ?_, r⟩
    rw [Below.heap_setCell _ _ _ _ (fun e => ?_)]
    · exact hh
    · obtain ⟨c, hc, _⟩ := h.row
      have e' : g = w.heap.size + 1 := e
      rw [e', hc] at hh; cases hh

theorem IsV.turn {w w' : World} {G G' : Nat → Prop} {p : Value} {s : List UInt8} {k : Nat} (h : IsV w G p s k) (hk : Keeps G w w') (hg : ∀ x, G' x → G x ∨ w.heap.size ≤ x) : IsV w' G' p s k := by
  obtain ⟨b, e, h⟩ := h
  exact ⟨b, e, h.keep hk hg⟩

theorem join_end {w wr w6 : World} {G : Nat → Prop} {U : List It} {j b6 sz : Nat} {v : Value} (hJ : JS w U j v wr) (hrow : wr.rowIs (w.heap.size + 1) 32 U.length (fun q => (U.getD q It.zero).p)) (hU : ∀ x ∈ U, IsV w G x.p (bl x.t) x.k) (hG : ∀ x, w.heap.size ≤ x → ¬ G x)
    (hb6 : wr.drew.heap.size ≤ b6) (hblk6 : w6.heap[b6]? = some (.cells #[.string ⟨#[]⟩, .slice (some ⟨w.heap.size + 1, 0, none⟩) U.length U.length, .int .i64 sz, .bool false, .slice none 0 0] 55 (0, 0)))
    (hbel6 : Below wr.drew.heap.size wr.drew w6) (hsz : sz ≤ 281474976710656) :
    IsV (w6.setCell ⟨w.heap.size, 0, none⟩ (.pointer (some ⟨b6, 0, none⟩))) G (.pointer (some ⟨b6, 0, none⟩)) (cat U) (wgt U + 2) ∧ Below w.heap.size w (w6.setCell ⟨w.heap.size, 0, none⟩ (.pointer (some ⟨b6, 0, none⟩))) := by
  have hs := hJ.sz
  have hb6' : wr.heap.size ≤ b6 := hb6
  have hbw : Below w.heap.size w wr.drew := hJ.bel.drew
  have hrow' : wr.drew.rowIs (w.heap.size + 1) 32 U.length (fun q => (U.getD q It.zero).p) := hrow
  have hU2 : ∀ x ∈ U, IsV wr.drew (fun y => G y ∨ y = w.heap.size) x.p (bl x.t) x.k := fun x hx => (hU x hx).turn (Keeps.of_below hbw G) (fun y hy => by
    rcases hy with hy | hy
    · exact Or.inl hy
    · right; omega)
  have hN := join_node hrow' hU2 hbel6 hblk6 (fun e => by
    rcases e with e | e
    · exact hG b6 (by omega) e
    · omega) (fun e => by
    rcases e with e | e
    · exact hG _ (by omega) e
    · omega) hsz
  refine ⟨hN.turn (fun y _ hy => Below.heap_setCell _ _ _ _ (fun e => hy (Or.inr e))) (fun y hy => Or.inl (Or.inl hy)), ?_⟩
  exact (hbw.trans (hbel6.mono (by show w.heap.size ≤ wr.heap.size; omega))).setCell (Nat.le_refl _) _

set_option maxHeartbeats 2000000 in
theorem joinTop_any (g1 g2 c1 c2 fr sz : Nat) (U : List It) (G : Nat → Prop) (w : World) (hn2 : fr + U.length ≤ 1073741824) (hsz : sz = (cat U).length) (hsz2 : sz ≤ 4194304)
    (hc1 : ∀ q, q < U.length → w.cell? ⟨g1, fr + q, none⟩ = some (U.getD q It.zero).p) (hc2 : ∀ q, q < U.length → w.cell? ⟨g2, fr + q, none⟩ = some (.string (U.getD q It.zero).t))
    (hU : ∀ x ∈ U, IsV w G x.p (bl x.t) x.k) (hG : ∀ x, w.heap.size ≤ x → ¬ G x) (hg1 : g1 < w.heap.size) (hg2 : g2 < w.heap.size) :
    Calls Try.prog 15 #[.slice (some ⟨g1, 0, none⟩) (fr + U.length) c1, .slice (some ⟨g2, 0, none⟩) (fr + U.length) c2, .int .i64 U.length, .int .i64 sz] w (JPost w G U) := by
  have hmk := run_make32 U.length (by omega)
  have hmk2 := run_make23 sz (by omega)
  have HST := hid_of (JS.start w U sz (by omega))
  have HU := hid_of hU
  have HG := hid_of hG
  have HC1 := hid_of hc1
  have HC2 := hid_of hc2
  have HSZ := hid_of hsz
  clear hU hG hc1 hc2 hsz
  go_enter Try.func15, Try.ntmps15
  go_wp2_with fail
  go_loopg [12, 13] (U.length) (fun g bf ix wr => ∃ j : Nat, j ≤ U.length ∧ g = U.length - j ∧ ix = .int .i64 j ∧ Hid (JS w U j bf wr))
  case atStart => exact ⟨0, Nat.zero_le _, rfl, rfl, HST⟩
  case round =>
    obtain ⟨j, hj, rfl, rfl, HJ⟩ := hrel
    by_cases hlt : j < U.length
    · obtain ⟨x, HX⟩ : ∃ x, Hid (U.getD j It.zero = x) := ⟨_, hid_of rfl⟩
      obtain ⟨tj, HTJ⟩ : ∃ tj, Hid (cat (U.take j) = tj) := ⟨_, hid_of rfl⟩
      obtain ⟨bx, hpx, _⟩ := HU.out _ (it_take U j hlt).1
      have h1 : wr.cell? ⟨g1, fr + j, none⟩ = some (.pointer (some ⟨bx, 0, none⟩)) := by
        rw [HJ.out.bel.cell (p := ⟨g1, fr + j, none⟩) hg1, HC1.out j hlt, hpx]
      have h2 : ∀ v, (wr.setCell ⟨w.heap.size + 1, j, none⟩ v).cell? ⟨g2, fr + j, none⟩ = some (.string x.t) := fun v => by
        rw [(HJ.out.bel.setCell (by show w.heap.size ≤ w.heap.size + 1; omega) v).cell (p := ⟨g2, fr + j, none⟩) hg2, ← HX.out]
        exact HC2.out j hlt
      have hfr := HJ.out.row.frozen j
      have hck := HJ.out.row.cell hlt
      rw [if_neg (Nat.lt_irrefl _)] at hck
      have HP : Hid ((U.getD j It.zero).p = .pointer (some ⟨bx, 0, none⟩)) := hpx
      clear hpx
      have htl : tj.length + x.t.size ≤ 140737488355328 := by
        have h3 := congrArg List.length (it_take U j hlt).2.1
        rw [HX.out, List.length_append, bl_length, HTJ.out] at h3
        have h4 : (cat (U.take (j + 1))).length ≤ (cat U).length := by
          conv => rhs; rw [← List.take_append_drop (j + 1) U]
          unfold cat
          rw [List.map_append, List.flatten_append, List.length_append]
          omega
        have h5 := HSZ.out
        omega
      have hwb : w.heap.size ≤ (wr.setCell ⟨w.heap.size + 1, j, none⟩ (.pointer (some ⟨bx, 0, none⟩))).heap.size := (HJ.out.bel.setCell (by show w.heap.size ≤ w.heap.size + 1; omega) _).size
      have HBF : Hid (Row (wr.setCell ⟨w.heap.size + 1, j, none⟩ (.pointer (some ⟨bx, 0, none⟩))) w.heap.size 5 u12 (Lib.byteCells tj)) := by
        rw [← HTJ.out]; exact HJ.out.buf_set _
      obtain ⟨ba, bc, hbv⟩ : ∃ a c, u12 = .slice a tj.length c := by
        obtain ⟨a, c, e⟩ := HBF.out.len
        rw [byteCells_length] at e
        exact ⟨a, c, e⟩
      subst hbv
      go_wp2_with (at_builtin; refine wp_app_str rfl _ _ rfl w.heap.size _ tj x.t HBF.out rfl rfl htl hwb ?_)
      intro v' w' hr hg
      have HJ2 : Hid (JS w U (j + 1) v' w') := by
        rw [← HTJ.out, ← HX.out] at hr
        rw [← HP.out] at hg
        exact HJ.out.step hlt hr hg
      clear hr hg HBF HJ
      go_wp2_with fail
      go_roundg (U.length - (j + 1))
      case measure => omega
      case rel => exact ⟨j + 1, hlt, rfl, by go_num, HJ2⟩
    · have hje : j = U.length := by omega
      have HROW : Hid (wr.rowIs (w.heap.size + 1) 32 U.length (fun q => (U.getD q It.zero).p)) := HJ.out.row.congr (fun i hi => by rw [if_pos (by omega)])
      have HBF : Hid (Row wr w.heap.size 5 u12 (Lib.byteCells (cat U))) := by
        have := HJ.out.buf
        rw [List.take_of_length_le (by omega)] at this
        exact this
      obtain ⟨tu, HTU⟩ : ∃ tu, Hid (cat U = tu) := ⟨_, hid_of rfl⟩
      rw [HTU.out] at HBF
      have hs1 : (convert 23 9 u12).run Try.prog wr.drew = .ok (.string ⟨tu.toArray⟩) wr.drew := run_string_buf (w := wr.drew) HBF.out
      have hc0 := cell_one HJ.out.res
      have hf0 := frozen_one HJ.out.res
      go_upto_region 9 with fail
      go_region_with (go_at_call 18; refine (zzNode_any _ U.length U.length sz _).mono ?_; rintro e w6 ⟨b6, rfl, hb6, hblk6, hbel6⟩; have hA : Below wr.heap.size wr w6 := (Below.refl wr.heap.size wr).drew.trans hbel6; have hres6 : w6.heap[w.heap.size]? = some (.cells #[.pointer none] 32 (0, 0)) := (hA.block _ (lt_of_block HJ.out.res)).trans HJ.out.res; have hcl := cell_one hres6; have hfl := frozen_one hres6; have hs6 := run_string_buf (HBF.out.later hA); have hs7 : ∀ x, (convert 23 9 u12).run Try.prog (w6.setCell ⟨w.heap.size, 0, none⟩ x) = .ok (.string ⟨tu.toArray⟩) (w6.setCell ⟨w.heap.size, 0, none⟩ x) := fun x => run_string_buf ((HBF.out.later hA).setOther hres6 (by decide)); clear hA hres6)
      all_goals (
        have HF : Hid (IsV (w6.setCell ⟨w.heap.size, 0, none⟩ (.pointer (some ⟨b6, 0, none⟩))) G (.pointer (some ⟨b6, 0, none⟩)) (cat U) (wgt U + 2) ∧ Below w.heap.size w (w6.setCell ⟨w.heap.size, 0, none⟩ (.pointer (some ⟨b6, 0, none⟩)))) :=
          join_end HJ.out HROW.out HU.out HG.out hb6 hblk6 hbel6 (by omega)
        rw [HTU.out] at HF
        clear hblk6 hbel6 hb6 HJ HROW HBF
        go_wp2_with fail
        refine bodyPost_ret (v := .tuple #[.agg #[.pointer (some ⟨b6, 0, none⟩)], .string ⟨tu.toArray⟩]) (by simp [results, Try.results15, go_sem, hcl]) rfl ?_
        refine ⟨b6, ?_, ?_, HF.out.2⟩
        · rw [HTU.out]
        · rw [HTU.out]; exact HF.out.1)

end Go.Proofs.Qxb6600249a
