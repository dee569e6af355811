/-
  DERIVED, BY AN AI AGENT. Seat b6600249a: THE WALK of (expand.Value).String (16).
-/
import Derived.Test.Qxb6600249aNodes
namespace Go.Proofs.Qxb6600249a
open Go.RowKit

/-- What String comes to. -/
def StrPost (w : World) (s : List UInt8) (e : Ending) (w' : World) : Prop := e = .returned (.string ⟨s.toArray⟩) ∧ Below w.heap.size w w'

theorem cell_in {w w' : World} {b i : Nat} {cs : Array Value} {t : TypeId} {fz : Nat × Nat} {v : Value} (h : w.heap[b]? = some (.cells cs t fz)) (hb : Below w.heap.size w w') (hv : cs[i]? = some v) : w'.cell? ⟨b, i, none⟩ = some v := by
  rw [World.cell?_of_block (w := w) (hb.block b (lt_of_block h))]
  simp [World.cell?, h, hv]

theorem two_allocs (w : World) (A C : Obj) : ((w.alloc A).alloc C).heap[w.heap.size]? = some A ∧ ((w.alloc A).alloc C).heap[w.heap.size + 1]? = some C := by
  refine ⟨?_, ?_⟩
  · rw [Below.heap_alloc (w.alloc A) C w.heap.size (by simp)]
    exact heap_alloc_new w A
  · have := heap_alloc_new (w.alloc A) C
    simpa using this

theorem cell_set_alloc_new (w : World) (p : Addr) (v x : Value) : ((w.setCell p v).alloc (.cells #[x] 28)).cell? ⟨w.heap.size, 0, none⟩ = some x := by
  have h : ((w.setCell p v).alloc (.cells #[x] 28)).heap[w.heap.size]? = some (.cells #[x] 28) := by
    have := heap_alloc_new (w.setCell p v) (.cells #[x] 28)
    simpa [World.setCell] using this
  simp only [World.cell?, h]
  rfl

theorem string_nil (w : World) : Calls Try.prog 16 #[.agg #[.pointer none]] w (StrPost w []) := by
  go_enter Try.func16, Try.ntmps16
  go_wp2_with fail
  go_ret
  exact ⟨rfl, (Below.refl _ _).alloc (Nat.le_refl _) _⟩

theorem bldF_kept {B b : Nat} {p : Value} {bs : List Value} {w w' : World} {row : Option Nat} (h : Lib.BuilderAtF 58 5 B b p bs w) (hg : w.grownBy w' row) (hrow : ∀ g, row = some g → ∃ cs fz, w.heap[g]? = some (.cells cs 28 fz)) : Lib.BuilderAtF 58 5 B b p bs w' := by
  obtain ⟨hB, v, hb, hown, hne⟩ := h
  refine ⟨hB, v, ?_, hown.kept hg ?_, hne⟩
  · rw [hg.block b (lt_of_block hb) (fun e => ?_)]
    · exact hb
    · obtain ⟨cs, fz, hc⟩ := hrow b e.symm
      rw [hb] at hc
      cases hc
  · cases row with
    | none =>
      cases hv : v.ownBlock with
      | none => exact Or.inl rfl
      | some x => exact Or.inr (by simp)
    | some g =>
      obtain ⟨cs, fz, hc⟩ := hrow g rfl
      exact Or.inr (Lib.ownBlock_neF hown hc (by decide))

theorem row_others {B b : Nat} {p : Value} {bs : List Value} {w w' : World} {v : Value} {xs : List Value} (h : Row w B 28 v xs) (hbd : Lib.BuilderAtF 58 5 B b p bs w) (ho : Lib.OthersKept 5 (some b) w w') : Row w' B 28 v xs := by
  obtain ⟨_, vb, hb, _, _⟩ := hbd
  obtain ⟨h1, h2⟩ := h
  refine ⟨h1, ?_⟩
  rcases h2 with h2 | ⟨g, cap, cur, hv, hg, hh, r⟩
  · exact Or.inl h2
  · refine Or.inr ⟨g, cap, cur, hv, hg, ho g _ hh (fun e => ?_) (fun c fz e => ?_), r⟩
    · cases e
      rw [hb] at hh
      cases hh
    · cases e

/-- The walk's state: out is written, mid is being written, R is the stack, its top first. -/
structure St (w : World) (s : List UInt8) (R : List E) (out mid : List UInt8) (v : Value) (wr : World) : Prop where
  row : Row wr (w.heap.size + 1) 28 v (R.map E.val).reverse
  bld : Lib.BuilderAtF 58 5 (w.heap.size + 1) (w.heap.size + 1) (.pointer (some ⟨w.heap.size + 1, 0, none⟩)) (Lib.byteCells out) wr
  bel : Below w.heap.size w wr
  sz : w.heap.size + 2 ≤ wr.heap.size
  ok : ∀ e ∈ R, e.ok w
  txt : out ++ (mid ++ rest R) = s

theorem St.shape {w wr : World} {s out mid : List UInt8} {e : E} {R : List E} {v : Value} (h : St w s (e :: R) out mid v wr) : ∃ g cap, v = .slice (some ⟨g, 0, none⟩) (R.length + 1) cap ∧ w.heap.size + 1 ≤ g ∧ R.length + 1 ≤ cap ∧ wr.cell? ⟨g, R.length, none⟩ = some e.val ∧ wr.frozen? ⟨g, R.length, none⟩ = false ∧ ∃ cs, wr.heap[g]? = some (.cells cs 28 (0, 0)) := by
  have hr := h.row
  have hl : ((e :: R).map E.val).reverse.length = R.length + 1 := by simp
  rcases hr.2 with ⟨_, h2⟩ | ⟨g, cap, cur, hv, hg, hh, hc, hcm, hcs, ht⟩
  · rw [hl] at h2; cases h2
  · rw [hl] at hv hc
    have hr' := hr
    unfold Row at hr'
    rw [hv, hl] at hr'
    refine ⟨g, cap, hv, hg, hc, ?_, hr'.frozenAt _, cur, hh⟩
    rw [hr'.cellAt R.length (by omega)]
    simp

theorem St.pop {w wr : World} {s out : List UInt8} {e : E} {R : List E} {g cap : Nat} (h : St w s (e :: R) out [] (.slice (some ⟨g, 0, none⟩) (R.length + 1) cap) wr) (h0 : e.n = 0) : St w s R out [] (.slice (some ⟨g, 0, none⟩) R.length cap) wr := by
  have hr := h.row
  unfold Row at hr
  have hl : ((e :: R).map E.val).reverse.length = R.length + 1 := by simp
  rw [hl] at hr
  have hp := Row.pop hr R.length (by omega)
  have he : ((e :: R).map E.val).reverse.take R.length = (R.map E.val).reverse := by simp
  rw [he] at hp
  refine ⟨?_, h.bld, h.bel, h.sz, fun e' he' => h.ok e' (List.mem_cons_of_mem _ he'), ?_⟩
  · unfold Row; rw [List.length_reverse, List.length_map]; exact hp
  · have ht := h.txt
    have hes : e.s = [] := by
      rcases (h.ok e (List.mem_cons_self)).1 with ⟨_, h2, _⟩ | ⟨pb, po, _, hp⟩
      · exact h2
      · exact (hp.zero h0).1
    rw [← ht]
    simp [rest, hes]

theorem St.store {w wr : World} {s out s1 : List UInt8} {R : List E} {g cap m : Nat} {e e' : E} (h : St w s (e :: R) out [] (.slice (some ⟨g, 0, none⟩) (m + 1) cap) wr) (hm : R.length = m)
    (hblk : ∃ cs, wr.heap[g]? = some (.cells cs 28 (0, 0))) (hg : w.heap.size + 1 ≤ g) (he : e'.ok w) (hs : e.s = s1 ++ e'.s) :
    St w s (e' :: R) out s1 (.slice (some ⟨g, 0, none⟩) (m + 1) cap) (wr.setCell ⟨g, m, none⟩ e'.val) := by
  have hr := h.row
  unfold Row at hr
  have hl : ∀ e : E, ((e :: R).map E.val).reverse.length = m + 1 := fun e => by simp [hm]
  rw [hl] at hr
  obtain ⟨h1, h2⟩ := hr.stored m e'.val
  obtain ⟨cs, hblk⟩ := hblk
  refine ⟨?_, bldF_kept h.bld h2 (fun x hx => by cases hx; exact ⟨_, _, hblk⟩), h.bel.setCell (by show w.heap.size ≤ g; omega) _, by simpa [World.setCell] using h.sz, ?_, ?_⟩
  · unfold Row
    rw [hl]
    have e : ((e :: R : List E).map E.val).reverse.set m e'.val = ((e' :: R : List E).map E.val).reverse := by
      simp only [List.map_cons, List.reverse_cons]
      rw [List.set_append_right _ _ (by simp [hm])]
      simp [hm]
    rw [← e]; exact h1
  · intro e2 he2
    rcases List.mem_cons.1 he2 with rfl | he2
    · exact he
    · exact h.ok e2 (List.mem_cons_of_mem _ he2)
  · rw [← h.txt]
    simp [rest, hs]

theorem St.push {w wr w' : World} {s out : List UInt8} {e : E} {R : List E} {v v' : Value} (h : St w s R out e.s v wr) (he : e.ok w) (hrow : Row w' (w.heap.size + 1) 28 v' ((R.map E.val).reverse ++ [e.val])) (hg : (wr.alloc (.cells #[e.val] 28)).grownBy w' v.ownBlock) : St w s (e :: R) out [] v' w' := by
  have hb1 := bldF_kept h.bld (World.grownBy_alloc wr (.cells #[e.val] 28) none) (fun _ hx => by cases hx)
  have hr1 := h.row.alloc (.cells #[e.val] 28)
  have hrow1 : ∀ g, v.ownBlock = some g → ∃ cs fz, (wr.alloc (.cells #[e.val] 28)).heap[g]? = some (.cells cs 28 fz) := fun g hv => by
    rcases hr1.2 with ⟨rfl, _⟩ | ⟨g', cap, cur, rfl, _, hh, _⟩
    · cases hv
    · cases hv; exact ⟨_, _, hh⟩
  refine ⟨by simpa using hrow, bldF_kept hb1 hg hrow1, ?_, ?_, ?_, ?_⟩
  · refine (h.bel.alloc h.bel.size _).trans ⟨hg.os, hg.tape, hg.output, hg.size, fun x hx => hg.block x ?_ (fun e => ?_)⟩
    · have := h.bel.size; simp; omega
    · have := (hr1.lt x e.symm).1; omega
  · have := hg.size; have := h.sz; simp at *; omega
  · intro e' he'
    rcases List.mem_cons.1 he' with rfl | he'
    · exact he
    · exact h.ok e' he'
  · rw [← h.txt]; simp [rest]

theorem St.write {w wr w' : World} {s out : List UInt8} {t : ByteArray} {R : List E} {v : Value} (h : St w s R out (bl t) v wr)
    (hb : Lib.BuilderAtF 58 5 (w.heap.size + 1) (w.heap.size + 1) (.pointer (some ⟨w.heap.size + 1, 0, none⟩)) (Lib.byteCells out ++ Lib.strCells t) w') (hbe : Below (w.heap.size + 1) wr w') (ho : Lib.OthersKept 5 (some (w.heap.size + 1)) wr w') : St w s R (out ++ bl t) [] v w' := by
  have e : Lib.byteCells (out ++ bl t) = Lib.byteCells out ++ Lib.strCells t := by simp [Lib.byteCells, Lib.strCells, bl]
  refine ⟨row_others h.row h.bld ho, by rw [e]; exact hb, h.bel.trans (hbe.mono (by omega)), Nat.le_trans h.sz hbe.size, h.ok, ?_⟩
  rw [← h.txt]; simp

theorem load_cons (e : E) (R : List E) : load (e :: R) = e.k + 1 + load R := by simp [load]
theorem length_le_load : ∀ R : List E, R.length ≤ load R
  | [] => Nat.zero_le _
  | e :: R => by
    have := length_le_load R
    rw [load_cons, List.length_cons]; omega

set_option maxHeartbeats 1000000 in
theorem string_any (w : World) (b : Nat) (s : List UInt8) (k : Nat) (h : NAt w noG b s k) (hs : s.length ≤ 1073741824) (hk : k ≤ 1073741824) : Calls Try.prog 16 #[.agg #[.pointer (some ⟨b, 0, none⟩)]] w (StrPost w s) := by
  have hnil := fun (w : World) (x : Option Addr) (n c : Nat) => Lib.run_eql_slice_nil (P := Try.prog) w 28 32 x n c 0 0 Try.underlying28
  have ha : ∀ o, Below w.heap.size w (w.alloc o) := fun o => (Below.refl _ _).alloc (Nat.le_refl _) _
  have hE := h.elim
  clear h
  rcases hE with ⟨t, c2, c3, c4, h, _, rfl, rfl⟩ | ⟨t, pb, po, n, c, sz, c3, c4, k, h, _, hnc, hsz, hp, rfl⟩
  · skip
    have hc0 : ∀ o, (w.alloc o).cell? ⟨b, 0, none⟩ = some (.string t) := fun o => cell_in h (ha o) rfl
    have hc1 : ∀ o, (w.alloc o).cell? ⟨b, 1, none⟩ = some (.slice none 0 0) := fun o => cell_in h (ha o) rfl
    go_enter Try.func16, Try.ntmps16
    go_wp2_with fail
    go_ret
    exact ⟨by rfl, ha _⟩
  · skip
    have hc1 : ∀ o, (w.alloc o).cell? ⟨b, 1, none⟩ = some (.slice (some ⟨pb, po, none⟩) n c) := fun o => cell_in h (ha o) rfl
    have hc2 : ∀ o o2, ((w.alloc o).alloc o2).cell? ⟨b, 2, none⟩ = some (.int .i64 sz) := fun o o2 => cell_in h ((ha o).alloc (by simp) _) rfl
    go_enter Try.func16, Try.ntmps16
    go_wp2_with fail
    have hbk : ((w.alloc (.cells #[.pointer (some ⟨b, 0, none⟩)] 32)).alloc (.cells #[.pointer none, .slice none 0 0] 58)).heap[w.heap.size + 1]? = some (.cells #[.pointer none, .slice none 0 0] 58 (0, 0)) := by
      exact (two_allocs w _ _).2
    have hw1 : Below w.heap.size w ((w.alloc (.cells #[.pointer (some ⟨b, 0, none⟩)] 32)).alloc (.cells #[.pointer none, .slice none 0 0] 58)) := (ha _).alloc (by simp) _
    have hsz1 : ((w.alloc (.cells #[.pointer (some ⟨b, 0, none⟩)] 32)).alloc (.cells #[.pointer none, .slice none 0 0] 58)).heap.size = w.heap.size + 2 := by simp
    have hbox : ((w.alloc (.cells #[.pointer (some ⟨b, 0, none⟩)] 32)).alloc (.cells #[.pointer none, .slice none 0 0] 58)).cell? ⟨w.heap.size, 0, none⟩ = some (.pointer (some ⟨b, 0, none⟩)) := by
      simp only [World.cell?, (two_allocs w _ _).1]
      rfl
    generalize (w.alloc (.cells #[.pointer (some ⟨b, 0, none⟩)] 32)).alloc (.cells #[.pointer none, .slice none 0 0] 58) = w1 at *
    refine (Try.Builder_Grow_fresh (w.heap.size + 1) (w.heap.size + 1) sz w1 (Nat.le_refl _) hbk (by omega) hsz).mono ?_
    rintro e w2 ⟨rfl, hB2, hb2⟩
    have hbox2 : w2.cell? ⟨w.heap.size, 0, none⟩ = some (.pointer (some ⟨b, 0, none⟩)) := by
      rw [hb2.cell (p := ⟨w.heap.size, 0, none⟩) (by show w.heap.size < w.heap.size + 1; omega)]; exact hbox
    have hbe2 : Below w.heap.size w w2 := hw1.trans (hb2.mono (by omega))
    have hs2 : w.heap.size + 2 ≤ w2.heap.size := by rw [← hsz1]; exact hb2.size
    have hc1' : w2.cell? ⟨b, 1, none⟩ = some (.slice (some ⟨pb, po, none⟩) n c) := cell_in h hbe2 rfl
    have HF := hid_of (Lib.BuilderAtF.of hB2)
    clear hbox hbk hw1 hsz1 hb2 hB2 hc1 hc2 ha
    go_wp2_with fail
    go_loopg [4] (k + 1) (fun g st wr => ∃ R out, Hid (St w s R out [] st wr) ∧ g = load R ∧ load R ≤ k + 1)
    case atStart =>
      refine ⟨[⟨some ⟨pb, po, none⟩, n, c, s, k⟩], [], ⟨?_, ?_, ?_, ?_, ?_, ?_⟩, rfl, by simp [load]⟩
      · exact World.ownsRow_lit w2 #[.slice (some ⟨pb, po, none⟩) n c] 1 (by omega) (by unfold maxLen; omega) rfl
      · exact bldF_kept HF.out (World.grownBy_alloc w2 _ none) (fun _ hx => by cases hx)
      · exact hbe2.alloc (by omega) _
      · simp; omega
      · intro e he
        simp at he
        subst he
        exact ⟨Or.inr ⟨pb, po, rfl, hp⟩, hnc⟩
      · simp [rest]
    case round =>
      obtain ⟨R, out, HS, rfl, hle⟩ := hrel
      cases R with
      | nil =>
        have hz : ∃ a cp, u4 = .slice a 0 cp := by
          rcases HS.out.row.2 with ⟨rfl, _⟩ | ⟨g, cap, cur, rfl, _⟩
          · exact ⟨_, _, rfl⟩
          · exact ⟨_, _, rfl⟩
        have hB1 : w.heap.size + 1 ≤ wr.heap.size := by have := HS.out.sz; omega
        have HC := hid_of (Try.Builder_String_any_k (w.heap.size + 1) (w.heap.size + 1) out wr (Or.inr HS.out.bld) hB1)
        have hout : out = s := by have := HS.out.txt; simpa [rest] using this
        have HBE := hid_of HS.out.bel
        clear HS
        obtain ⟨a0, cp, rfl⟩ := hz
        go_wp2_with fail
        refine HC.out.mono ?_
        rintro e w5 ⟨rfl, _, hb5, _⟩
        have HBE5 : Hid (Below w.heap.size w w5) := HBE.out.trans (hb5.mono (by omega))
        clear hb5
        go_wp2_with fail
        go_ret
        exact ⟨by rfl, HBE5.out⟩
      | cons e R =>
        obtain ⟨gs, cap, rfl, hg1, hcap, hctop, hfr, hblk⟩ := HS.out.shape
        have hlc := load_cons e R
        have hll := length_le_load R
        obtain ⟨m, hm⟩ : ∃ m, R.length = m := ⟨_, rfl⟩
        rw [hm] at hctop hfr hcap hll
        obtain ⟨ea, en, ec, es, ek⟩ := e
        unfold E.val at hctop
        simp only at hctop hlc
        cases en with
        | zero =>
          have HP : Hid (St w s R out [] (.slice (some ⟨gs, 0, none⟩) m cap) wr) := by
            have h2 := HS.out.pop rfl
            rw [hm] at h2
            exact h2
          clear HS
          rw [hm]
          go_wp2_with fail
          go_roundg (load R)
          case measure => omega
          case rel => exact ⟨R, out, HP, rfl, by omega⟩
        | succ q =>
          obtain ⟨hok, hqc⟩ := HS.out.ok _ List.mem_cons_self
          rcases hok with ⟨h0, _⟩ | ⟨pb', po', hea, hpa⟩
          · cases h0
          simp only at hea hpa hqc
          subst hea
          obtain ⟨b', s1, s2, k1, k2, hcp, hN, hP2, hes, hek⟩ := hpa.succ rfl
          have hbel := HS.out.bel
          have hcp' : wr.cell? ⟨pb', po', none⟩ = some (.pointer (some ⟨b', 0, none⟩)) := by
            rw [hbel.cell (p := ⟨pb', po', none⟩) (World.block_lt_of_cell? w ⟨pb', po', none⟩ hcp)]; exact hcp
          have hq0 : ((q : Int) + 1 == 0) = false := by rw [beq_eq_false_iff_ne]; omega
          match ec, hqc with
          | 0, hqc => exact absurd hqc (Nat.not_succ_le_zero _)
          | 1, hqc =>
            have hq : q = 0 := by omega
            subst hq
            obtain ⟨rfl, rfl⟩ := hP2.zero rfl
            have HS1 : Hid (St w s (⟨some ⟨pb', po', none⟩, 0, 0, [], 0⟩ :: R) out s1 (.slice (some ⟨gs, 0, none⟩) (m + 1) cap) (wr.setCell ⟨gs, m, none⟩ (.slice (some ⟨pb', po', none⟩) 0 0))) := by
              have h1 := HS.out
              rw [hm] at h1
              exact h1.store (e' := ⟨some ⟨pb', po', none⟩, 0, 0, [], 0⟩) hm hblk hg1 ⟨Or.inl ⟨rfl, rfl, rfl⟩, Nat.le_refl _⟩ hes
            have hbel1 := HS1.out.bel
            have hlc2 := load_cons ⟨some ⟨pb', po', none⟩, 0, 0, [], 0⟩ R
            simp only at hlc2
            have hB1 : w.heap.size + 1 ≤ (wr.setCell ⟨gs, m, none⟩ (.slice (some ⟨pb', po', none⟩) 0 0)).heap.size := by have := HS1.out.sz; omega
            clear HS
            have hE := hN.elim
            clear hN
            rcases hE with ⟨t', c2', c3', c4', h', _, rfl, rfl⟩ | ⟨t', pb2, po2, n2, cc2, sz2, c3', c4', k3, h', _, hnc', hsz', hp', rfl⟩
            · skip
              have hn0 : (wr.setCell ⟨gs, m, none⟩ (.slice (some ⟨pb', po', none⟩) 0 0)).cell? ⟨b', 0, none⟩ = some (.string t') := cell_in h' hbel1 rfl
              have hn1 : (wr.setCell ⟨gs, m, none⟩ (.slice (some ⟨pb', po', none⟩) 0 0)).cell? ⟨b', 1, none⟩ = some (.slice none 0 0) := cell_in h' hbel1 rfl
              have hlen : (Lib.byteCells out).length + t'.size ≤ 140737488355328 := by
                have ht := congrArg List.length HS1.out.txt
                simp only [List.length_append, bl_length] at ht
                have : (Lib.byteCells out).length = out.length := by simp [Lib.byteCells]
                omega
              rw [hm]
              go_wp2_with fail
              refine (Try.Builder_WriteString_k (w.heap.size + 1) (w.heap.size + 1) (Lib.byteCells out) t' _ (Or.inr HS1.out.bld) hlen hB1).mono ?_
              rintro e w5 ⟨rfl, hbd, hbe, hot⟩
              have HS5 := hid_of (HS1.out.write hbd hbe hot)
              clear hbd hbe hot HS1
              go_wp2_with fail
              go_roundg (load (⟨some ⟨pb', po', none⟩, 0, 0, [], 0⟩ :: R))
              case measure => omega
              case rel => exact ⟨_, _, HS5, rfl, by omega⟩
            · skip
              have hn1 : (wr.setCell ⟨gs, m, none⟩ (.slice (some ⟨pb', po', none⟩) 0 0)).cell? ⟨b', 1, none⟩ = some (.slice (some ⟨pb2, po2, none⟩) n2 cc2) := cell_in h' hbel1 rfl
              have hlc3 := load_cons ⟨some ⟨pb2, po2, none⟩, n2, cc2, s1, k3⟩ (⟨some ⟨pb', po', none⟩, 0, 0, [], 0⟩ :: R)
              simp only at hlc3
              have hxl : ((⟨some ⟨pb', po', none⟩, 0, 0, [], 0⟩ :: R : List E).map E.val).reverse.length ≤ 1073741824 := by simp [hm]; omega
              rw [hm]
              go_wp2_with (at_builtin; refine wp_app_row rfl _ _ 60 28 rfl Try.underlying60 Try.info28 (w.heap.size + 1) _ _ rfl (HS1.out.row.alloc _) ⟨_, 0, none⟩ 1 (.slice (some ⟨pb2, po2, none⟩) n2 cc2) rfl ?_ rfl hxl ?_ ?_)
              · exact cell_set_alloc_new _ _ _ _
              · exact Nat.le_trans hB1 (by simp)
              · intro v' w6 hrow6 hg6 _
                have HS6 := hid_of (HS1.out.push (e := ⟨some ⟨pb2, po2, none⟩, n2, cc2, s1, k3⟩) ⟨Or.inr ⟨pb2, po2, rfl, hp'⟩, hnc'⟩ (by simpa [E.val] using hrow6) hg6)
                clear hrow6 hg6 HS1
                go_wp2_with fail
                go_roundg (load (⟨some ⟨pb2, po2, none⟩, n2, cc2, s1, k3⟩ :: ⟨some ⟨pb', po', none⟩, 0, 0, [], 0⟩ :: R))
                case measure => omega
                case rel => exact ⟨_, _, HS6, rfl, by omega⟩
          | c9 + 2, hqc =>
            have HS1 : Hid (St w s (⟨some ⟨pb', po' + 1, none⟩, q, c9 + 1, s2, k2⟩ :: R) out s1 (.slice (some ⟨gs, 0, none⟩) (m + 1) cap) (wr.setCell ⟨gs, m, none⟩ (.slice (some ⟨pb', po' + 1, none⟩) q (c9 + 1)))) := by
              have h1 := HS.out
              rw [hm] at h1
              exact h1.store (e' := ⟨some ⟨pb', po' + 1, none⟩, q, c9 + 1, s2, k2⟩) hm hblk hg1 ⟨Or.inr ⟨pb', po' + 1, rfl, hP2⟩, by show q ≤ c9 + 1; omega⟩ hes
            have hbel1 := HS1.out.bel
            have hlc2 := load_cons ⟨some ⟨pb', po' + 1, none⟩, q, c9 + 1, s2, k2⟩ R
            simp only at hlc2
            have hB1 : w.heap.size + 1 ≤ (wr.setCell ⟨gs, m, none⟩ (.slice (some ⟨pb', po' + 1, none⟩) q (c9 + 1))).heap.size := by have := HS1.out.sz; omega
            clear HS
            have hE := hN.elim
            clear hN
            rcases hE with ⟨t', c2', c3', c4', h', _, rfl, rfl⟩ | ⟨t', pb2, po2, n2, cc2, sz2, c3', c4', k3, h', _, hnc', hsz', hp', rfl⟩
            · skip
              have hn0 : (wr.setCell ⟨gs, m, none⟩ (.slice (some ⟨pb', po' + 1, none⟩) q (c9 + 1))).cell? ⟨b', 0, none⟩ = some (.string t') := cell_in h' hbel1 rfl
              have hn1 : (wr.setCell ⟨gs, m, none⟩ (.slice (some ⟨pb', po' + 1, none⟩) q (c9 + 1))).cell? ⟨b', 1, none⟩ = some (.slice none 0 0) := cell_in h' hbel1 rfl
              have hlen : (Lib.byteCells out).length + t'.size ≤ 140737488355328 := by
                have ht := congrArg List.length HS1.out.txt
                simp only [List.length_append, bl_length] at ht
                have : (Lib.byteCells out).length = out.length := by simp [Lib.byteCells]
                omega
              rw [hm]
              go_wp2_with fail
              refine (Try.Builder_WriteString_k (w.heap.size + 1) (w.heap.size + 1) (Lib.byteCells out) t' _ (Or.inr HS1.out.bld) hlen hB1).mono ?_
              rintro e w5 ⟨rfl, hbd, hbe, hot⟩
              have HS5 := hid_of (HS1.out.write hbd hbe hot)
              clear hbd hbe hot HS1
              go_wp2_with fail
              go_roundg (load (⟨some ⟨pb', po' + 1, none⟩, q, c9 + 1, s2, k2⟩ :: R))
              case measure => omega
              case rel => exact ⟨_, _, HS5, rfl, by omega⟩
            · skip
              have hn1 : (wr.setCell ⟨gs, m, none⟩ (.slice (some ⟨pb', po' + 1, none⟩) q (c9 + 1))).cell? ⟨b', 1, none⟩ = some (.slice (some ⟨pb2, po2, none⟩) n2 cc2) := cell_in h' hbel1 rfl
              have hlc3 := load_cons ⟨some ⟨pb2, po2, none⟩, n2, cc2, s1, k3⟩ (⟨some ⟨pb', po' + 1, none⟩, q, c9 + 1, s2, k2⟩ :: R)
              simp only at hlc3
              have hxl : ((⟨some ⟨pb', po' + 1, none⟩, q, c9 + 1, s2, k2⟩ :: R : List E).map E.val).reverse.length ≤ 1073741824 := by simp [hm]; omega
              rw [hm]
              go_wp2_with (at_builtin; refine wp_app_row rfl _ _ 60 28 rfl Try.underlying60 Try.info28 (w.heap.size + 1) _ _ rfl (HS1.out.row.alloc _) ⟨_, 0, none⟩ 1 (.slice (some ⟨pb2, po2, none⟩) n2 cc2) rfl ?_ rfl hxl ?_ ?_)
              · exact cell_set_alloc_new _ _ _ _
              · exact Nat.le_trans hB1 (by simp)
              · intro v' w6 hrow6 hg6 _
                have HS6 := hid_of (HS1.out.push (e := ⟨some ⟨pb2, po2, none⟩, n2, cc2, s1, k3⟩) ⟨Or.inr ⟨pb2, po2, rfl, hp'⟩, hnc'⟩ (by simpa [E.val] using hrow6) hg6)
                clear hrow6 hg6 HS1
                go_wp2_with fail
                go_roundg (load (⟨some ⟨pb2, po2, none⟩, n2, cc2, s1, k3⟩ :: ⟨some ⟨pb', po' + 1, none⟩, q, c9 + 1, s2, k2⟩ :: R))
                case measure => omega
                case rel => exact ⟨_, _, HS6, rfl, by omega⟩

end Go.Proofs.Qxb6600249a
