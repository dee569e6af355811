/-
  DERIVED, BY AN AI AGENT. Seat b6600249a: THE WALK of FnValueStringMatchesConcatModel (3).
-/
import Derived.Test.Qxb6600249aModel4
namespace Go.Proofs.Qxb6600249a
open Go.RowKit

/-- What stands between two rounds. -/
structure RS (w0 : World) (S : List It) (lv ls lw : Value) (wr : World) : Prop where
  ms : MS w0 S (S.map It.p) (S.map It.str) (S.map It.num) lv ls lw wr
  ok : ∀ x ∈ S, x.ok

theorem MS.pop {w0 wr : World} {T U : List It} {x : It} {g1 g2 g3 c1 c2 c3 n : Nat} (hn : n = T.length + U.length)
    (h : MS w0 (T ++ U ++ [x]) ((T ++ U).map It.p) ((T ++ U).map It.str) ((T ++ U).map It.num) (.slice (some ⟨g1, 0, none⟩) n c1) (.slice (some ⟨g2, 0, none⟩) n c2) (.slice (some ⟨g3, 0, none⟩) n c3) wr) :
    MS w0 (T ++ [x]) (T.map It.p) (T.map It.str) (T.map It.num) (.slice (some ⟨g1, 0, none⟩) T.length c1) (.slice (some ⟨g2, 0, none⟩) T.length c2) (.slice (some ⟨g3, 0, none⟩) T.length c3) wr := by
  have e : ∀ f : It → Value, ((T ++ U).map f).take T.length = T.map f := fun f => by
    rw [List.map_append]; exact List.take_left' (by simp)
  have p : ∀ (t : TypeId) (f : It → Value) (g c : Nat), Row wr w0.heap.size t (.slice (some ⟨g, 0, none⟩) n c) ((T ++ U).map f) → Row wr w0.heap.size t (.slice (some ⟨g, 0, none⟩) T.length c) (T.map f) := fun t f g c h1 => by
    unfold Row at h1 ⊢
    rw [List.length_map, List.length_append, ← hn] at h1
    have h2 := Row.pop h1 T.length (by omega)
    rw [e] at h2
    rw [List.length_map]
    exact h2
  refine ⟨h.bel, p _ _ _ _ h.r1, p _ _ _ _ h.r2, p _ _ _ _ h.r3, fun y hy => h.it y ?_⟩
  rcases List.mem_append.1 hy with hy | hy
  · simp [hy]
  · simp at hy; simp [hy]

theorem wgt_le (U : List It) (h : ∀ x ∈ U, x.ok) : wgt U ≤ 4 * nodes U := by
  induction U with
  | nil => simp [wgt]
  | cons y U ih =>
    have h1 := ih (fun x hx => h x (List.mem_cons_of_mem _ hx))
    have h2 := (h y List.mem_cons_self).1
    simp only [wgt, nodes, List.map_cons, List.sum_cons] at h1 ⊢
    omega

/-- The entry that a join makes. -/
def It.join (b wt : Nat) (U : List It) : It := ⟨.pointer (some ⟨b, 0, none⟩), ⟨(cat U).toArray⟩, wt, wgt U + 2⟩

theorem It.join_ok {b wt : Nat} {U : List It} (hU : ∀ x ∈ U, x.ok) (hw : wt = 1 + nodes U) (hl : wt ≤ 4194304) (hc : (cat U).length ≤ 4194304) : (It.join b wt U).ok := by
  have h := wgt_le U hU
  refine ⟨?_, hl, ?_⟩
  · show wgt U + 2 + 1 ≤ 4 * wt
    omega
  · show (ByteArray.mk (cat U).toArray).size ≤ 4194304
    rw [← bl_length]
    simpa [bl] using hc

theorem It.join_bl {b wt : Nat} {U : List It} : bl (It.join b wt U).t = cat U := by simp [bl, It.join]

theorem bl_back (t : ByteArray) : (⟨(bl t).toArray⟩ : ByteArray) = t := by
  obtain ⟨l⟩ := t
  simp [bl]

/-- The value p reads as the text t. -/
def FinOK (w : World) (p : Value) (t : ByteArray) : Prop :=
  (p = .pointer none ∧ t = ⟨#[]⟩) ∨ ∃ b k, p = .pointer (some ⟨b, 0, none⟩) ∧ NAt w noG b (bl t) k ∧ t.size ≤ 4194304 ∧ k ≤ 16777216

theorem FinOK.of {w : World} {G : Nat → Prop} {p : Value} {t : ByteArray} {k : Nat} (h : IsV w G p (bl t) k) (ht : t.size ≤ 4194304) (hk : k ≤ 16777216) : FinOK w p t := by
  obtain ⟨b, e, h⟩ := h
  exact Or.inr ⟨b, k, e, h.free, ht, hk⟩

theorem FinOK.later {w w' : World} {p : Value} {t : ByteArray} (h : FinOK w p t) (hb : Below w.heap.size w w') : FinOK w' p t := by
  rcases h with h | ⟨b, k, e, h, h2⟩
  · exact Or.inl h
  · exact Or.inr ⟨b, k, e, h.later hb, h2⟩

theorem final_string (w : World) (p : Value) (t : ByteArray) (h : FinOK w p t) : Calls Try.prog 16 #[.agg #[p]] w (fun e w' => e = .returned (.string t) ∧ Below w.heap.size w w') := by
  rcases h with ⟨rfl, rfl⟩ | ⟨b, k, rfl, h, ht, hk⟩
  · refine (string_nil w).mono ?_
    rintro e w' ⟨rfl, hb⟩
    exact ⟨rfl, hb⟩
  · refine (string_any w b (bl t) k h (by rw [bl_length]; omega) (by omega)).mono ?_
    rintro e w' ⟨rfl, hb⟩
    exact ⟨by rw [bl_back], hb⟩

/-- The variable 'final' at block B holds p, of text t. -/
structure FinAt (w0 : World) (B : Nat) (t : ByteArray) (w : World) : Prop where
  bel : Below w0.heap.size w0 w
  is : ∃ p, w.heap[B]? = some (.cells #[p] 32 (0, 0)) ∧ FinOK w p t ∧ w0.heap.size ≤ B

theorem FinAt.store {w0 wr w6 : World} {G : Nat → Prop} {p : Value} {t : ByteArray} {k : Nat} (h0 : Below w0.heap.size w0 wr) (hb : Below (wr.alloc (.cells #[.pointer none] 32)).heap.size (wr.alloc (.cells #[.pointer none] 32)) w6)
    (hv : IsV w6 G p (bl t) k) (hG : G wr.heap.size) (ht : t.size ≤ 4194304) (hk : k ≤ 16777216) : FinAt w0 wr.heap.size t (w6.setCell ⟨wr.heap.size, 0, none⟩ p) := by
  have hs : (wr.alloc (.cells #[.pointer none] 32)).heap.size = wr.heap.size + 1 := by simp
  have h1 : w6.heap[wr.heap.size]? = some (.cells #[.pointer none] 32 (0, 0)) := by
    rw [hb.block _ (by omega)]; exact heap_alloc_new wr _
  have h2 : Below w0.heap.size w0 w6 := (h0.alloc h0.size _).trans (hb.mono (by have := h0.size; omega))
  refine ⟨h2.setCell (by show w0.heap.size ≤ wr.heap.size; exact h0.size) _, p, set_one h1, ?_, h0.size⟩
  exact FinOK.of (hv.turn (G' := noG) (fun y _ hy => Below.heap_setCell _ _ _ _ (fun e => hy (by
    have e' : y = wr.heap.size := e
    rw [e']; exact hG))) (fun _ e => e.elim)) ht hk

theorem FinAt.start {w0 wr : World} (h0 : Below w0.heap.size w0 wr) : FinAt w0 wr.heap.size ⟨#[]⟩ (wr.alloc (.cells #[.pointer none] 32)) :=
  ⟨h0.alloc h0.size _, .pointer none, heap_alloc_new wr _, Or.inl ⟨rfl, rfl⟩, h0.size⟩

theorem FinAt.direct {w0 wr : World} {G : Nat → Prop} {p : Value} {t : ByteArray} {k : Nat} (h0 : Below w0.heap.size w0 wr) (hv : IsV wr G p (bl t) k) (ht : t.size ≤ 4194304) (hk : k ≤ 16777216) : FinAt w0 wr.heap.size t (wr.alloc (.cells #[p] 32)) :=
  ⟨h0.alloc h0.size _, p, heap_alloc_new wr _, FinOK.of (hv.later ((Below.refl _ _).alloc (Nat.le_refl _) _)) ht hk, h0.size⟩

theorem FinAt.later {w0 w w' : World} {B : Nat} {t : ByteArray} (h : FinAt w0 B t w) (hb : Below w.heap.size w w') : FinAt w0 B t w' := by
  obtain ⟨p, h1, h2, h3⟩ := h.is
  exact ⟨h.bel.trans (hb.mono h.bel.size), p, by rw [hb.block _ (lt_of_block h1)]; exact h1, h2.later hb, h3⟩

set_option maxHeartbeats 4000000 in
set_option maxRecDepth 100000 in
theorem model_any (a a' : Option Addr) (n c n' c' : Nat) (ss : List ByteArray) (bs : List UInt8) (w : World) (hn : n = ss.length) (hn' : n' = bs.length) (hc : StrsAt w a ss) (hcb : BytesAt w a' bs) :
    Calls Try.prog 3 #[.slice a n c, .slice a' n' c'] w (AnsK true w) := by
  subst hn hn'
  go_enter Try.func3, Try.ntmps3
  go_wp2_with fail
  refine (bytes9_any a a' _ c _ c' ss w rfl hc).mono ?_
  rintro e w1 ⟨bb, rfl, hb, rfl⟩
  cases bb with
  | false =>
    go_wp2_with fail
    go_ret
    exact AnsK.mk rfl (Below.refl _ _)
  | true =>
    obtain ⟨⟨hz, htot⟩, hbl⟩ := hb rfl
    clear hb
    have hsl := hz.1
    go_wp2_with fail
    refine (sumStrs_any a _ c ss _ rfl hz hc).mono ?_
    rintro e w2 ⟨z1, rfl, g1, g2, rfl⟩
    by_cases hbig : 1048576 < z1 + bs.length
    · go_wp2_with fail
      go_ret
      exact AnsK.mk rfl (Below.refl _ _)
    go_wp2_with fail
    clear g1 g2 hbig
    refine (cloneStrs_any a _ c ss _ rfl hsl hc).mono ?_
    intro e w3 hcl
    obtain ⟨a1, c1, rfl, hs3, hc1, hb3⟩ := hcl
    have hcb3 := hcb.later hb3
    have HB3 := hid_of hb3
    have HZ := hid_of hz.2
    clear hc hcb hb3 hz htot
    go_wp2_with fail
    refine (cloneBytes_any a' _ c' bs _ rfl hbl hcb3).mono ?_
    intro e w4 hcl
    obtain ⟨a2, c2, rfl, hcb4, hb4⟩ := hcl
    have hs4 := hs3.later hb4
    have HB4 : Hid (Below w2.heap.size w2 w4) := HB3.out.trans (hb4.mono HB3.out.size)
    clear hs3 hcb3 hb4 HB3
    go_wp2_with fail
    go_loopg [5, 6, 7, 8, 9, 10] (bs.length) (fun g lf nx lv ls lw ix wr => ∃ (k left next : Nat) (S : List It), k ≤ bs.length ∧ g = bs.length - k ∧ ix = .int .i64 k ∧ lf = .int .i64 left ∧ left ≤ 4194304 ∧ nx = .int .i64 next ∧ next ≤ ss.length ∧ S.length ≤ k ∧ Hid (RS w4 S lv ls lw wr))
    case atStart => exact ⟨0, 4194304, 0, [], Nat.zero_le _, rfl, rfl, rfl, Nat.le_refl _, rfl, Nat.zero_le _, Nat.le_refl _, ⟨MS.start w4, fun _ hx => by cases hx⟩⟩
    case round =>
      obtain ⟨k, left, next, S, hk, rfl, rfl, rfl, hleft, rfl, hnext, hSk, HS⟩ := hrel
      obtain ⟨la, lc, hlv⟩ := HS.out.ms.r1.len
      rw [List.length_map] at hlv
      subst hlv
      by_cases hlt : k < bs.length
      · obtain ⟨b, o, hao, hb, hcell⟩ := hcb4 k hlt
        subst hao
        have hcell' : wr.cell? ⟨b, o + k, none⟩ = some (.int .u8 (bs.getD k 0).toNat) := by rw [HS.out.ms.bel.cell (p := ⟨b, o + k, none⟩) hb]; exact hcell
        have hob : (bs.getD k 0).toNat < 256 := (bs.getD k 0).toNat_lt
        clear hcell
        generalize (bs.getD k 0).toNat = ob at *
        by_cases h0 : ob = 0
        · subst h0
          by_cases hnx : next < ss.length
          · obtain ⟨b5, o5, hao5, hb5, hcell5⟩ := hs4 next hnx
            subst hao5
            have hcell5' : wr.cell? ⟨b5, o5 + next, none⟩ = some (.string (ss.getD next ByteArray.empty)) := by rw [HS.out.ms.bel.cell (p := ⟨b5, o5 + next, none⟩) hb5]; exact hcell5
            have hsz := HZ.out next
            clear hcell5
            generalize ss.getD next ByteArray.empty = t at *
            by_cases ht0 : t.toList = []
            · go_wp2_with fail
              go_roundg (bs.length - (k + 1))
              case measure => omega
              case rel => exact ⟨k + 1, left, next + 1, S, by omega, rfl, by go_num, rfl, hleft, by go_num, by omega, by omega, HS⟩
            · skip
              have hts : t.size ≠ 0 := fun e => ht0 ((toList_nil t).2 e)
              have hte : (!t.toList.isEmpty) = true := by
                cases h : t.toList with
                | nil => exact absurd h ht0
                | cons _ _ => rfl
              go_wp2_with fail
              refine (zzWhole_any t none 0 0 wr (Or.inl hts)).mono ?_
              rintro e w5 ⟨bx, rfl, hb4', hblk4, hbel4⟩
              obtain ⟨xn, HXE⟩ : ∃ xn, Hid (xn = (⟨.pointer (some ⟨bx, 0, none⟩), t, 1, 1⟩ : It)) := ⟨_, hid_of rfl⟩
              have HM5 : Hid (MS w4 (S ++ [xn]) (S.map It.p) (S.map It.str) (S.map It.num) (.slice la S.length lc) u8 u9 w5) := by
                rw [HXE.out]
                exact (HS.out.ms.later hbel4).add _ (Leaf.isV (x := (bx, t)) ⟨_, _, _, hblk4⟩ (HS.out.ms.low bx hb4'))
              have HOK : Hid (∀ x ∈ S, x.ok) := HS.out.ok
              have HXN : Hid (xn.ok ∧ [Value.pointer (some ⟨bx, 0, none⟩)] = [xn].map It.p ∧ [Value.string t] = [xn].map It.str ∧ [Value.int .i64 1] = [xn].map It.num) := by
                rw [HXE.out]
                exact ⟨⟨by show 1 + 1 ≤ 4 * 1; omega, by show 1 ≤ 4194304; omega, by show t.size ≤ 4194304; omega⟩, rfl, rfl, rfl⟩
              clear hb4' hblk4 hbel4 HS HXE
              have hl1 : (S.map It.p).length ≤ 1073741824 := by simp; omega
              have hl2 : (S.map It.str).length ≤ 1073741824 := by simp; omega
              have hl3 : (S.map It.num).length ≤ 1073741824 := by simp; omega
              have HM6 : ∀ ob, Hid (MS w4 (S ++ [xn]) (S.map It.p) (S.map It.str) (S.map It.num) (.slice la S.length lc) u8 u9 (w5.alloc ob)) := fun ob => HM5.out.later ((Below.refl _ _).alloc (Nat.le_refl _) _)
              have hsz6 : ∀ ob, w4.heap.size ≤ (w5.alloc ob).heap.size := fun ob => (HM6 ob).out.bel.size
              have hcn6 : ∀ x ty, (w5.alloc (.cells #[x] ty)).cell? ⟨w5.heap.size, 0, none⟩ = some x := fun x ty => by
                simp only [World.cell?, heap_alloc_new]; rfl
              go_wp2_with (at_builtin; refine wp_app_row rfl _ _ 28 32 rfl Try.underlying28 Try.info32 w4.heap.size _ _ rfl (HM6 _).out.r1 ⟨_, 0, none⟩ 1 (.pointer (some ⟨bx, 0, none⟩)) rfl (hcn6 _ _) rfl hl1 (hsz6 _) ?_)
              intro v6 w6 hr6 hg6 hp6
              have HM7 := hid_of ((HM6 _).out.app1 hr6 hg6 (by simpa using hp6))
              clear hr6 hg6 hp6 HM6 HM5 hcn6 hsz6
              have HM8 : ∀ ob, Hid (MS w4 (S ++ [xn]) (S.map It.p ++ [.pointer (some ⟨bx, 0, none⟩)]) (S.map It.str) (S.map It.num) v6 u8 u9 (w6.alloc ob)) := fun ob => HM7.out.later ((Below.refl _ _).alloc (Nat.le_refl _) _)
              have hsz8 : ∀ ob, w4.heap.size ≤ (w6.alloc ob).heap.size := fun ob => (HM8 ob).out.bel.size
              have hcn8 : ∀ x ty, (w6.alloc (.cells #[x] ty)).cell? ⟨w6.heap.size, 0, none⟩ = some x := fun x ty => by
                simp only [World.cell?, heap_alloc_new]; rfl
              go_wp2_with (at_builtin; refine wp_app_row rfl _ _ 22 9 rfl Try.underlying22 Try.info9' w4.heap.size _ _ rfl (HM8 _).out.r2 ⟨_, 0, none⟩ 1 (.string t) rfl (hcn8 _ _) rfl hl2 (hsz8 _) ?_)
              intro v8 w8 hr8 hg8 hp8
              have HM9 := hid_of ((HM8 _).out.app2 hr8 hg8 (by simpa using hp8))
              clear hr8 hg8 hp8 HM8 HM7 hcn8 hsz8
              have HM10 : ∀ ob, Hid (MS w4 (S ++ [xn]) (S.map It.p ++ [.pointer (some ⟨bx, 0, none⟩)]) (S.map It.str ++ [.string t]) (S.map It.num) v6 v8 u9 (w8.alloc ob)) := fun ob => HM9.out.later ((Below.refl _ _).alloc (Nat.le_refl _) _)
              have hsz10 : ∀ ob, w4.heap.size ≤ (w8.alloc ob).heap.size := fun ob => (HM10 ob).out.bel.size
              have hcn10 : ∀ x ty, (w8.alloc (.cells #[x] ty)).cell? ⟨w8.heap.size, 0, none⟩ = some x := fun x ty => by
                simp only [World.cell?, heap_alloc_new]; rfl
              go_wp2_with (at_builtin; refine wp_app_row rfl _ _ 29 3 rfl Try.underlying29 Try.info3 w4.heap.size _ _ rfl (HM10 _).out.r3 ⟨_, 0, none⟩ 1 (.int .i64 1) rfl (hcn10 _ _) rfl hl3 (hsz10 _) ?_)
              intro v10 w10 hr10 hg10 hp10
              have HM11 := hid_of ((HM10 _).out.app3 hr10 hg10 (by simpa using hp10))
              clear hr10 hg10 hp10 HM10 HM9 hcn10 hsz10
              have HR : Hid (RS w4 (S ++ [xn]) v6 v8 v10 w10) := by
                refine ⟨?_, fun y hy => ?_⟩
                · have h9 := HM11.out
                  rw [List.map_append, List.map_append, List.map_append]
                  rw [HXN.out.2.1, HXN.out.2.2.1, HXN.out.2.2.2] at h9
                  exact h9
                · rcases List.mem_append.1 hy with hy | hy
                  · exact HOK.out y hy
                  · simp at hy; subst hy; exact HXN.out.1
              go_wp2_with fail
              go_roundg (bs.length - (k + 1))
              case measure => omega
              case rel => exact ⟨k + 1, left, next + 1, S ++ [xn], by omega, rfl, by go_num, rfl, hleft, by go_num, by omega, by simp; omega, HR⟩
          · go_wp2_with fail
            go_roundg (bs.length - (k + 1))
            case measure => omega
            case rel => exact ⟨k + 1, left, next, S, by omega, rfl, by go_num, rfl, hleft, rfl, by omega, by omega, HS⟩
        · by_cases h255 : ob = 255
          · subst h255
            by_cases hn0 : S.length = 0
            · go_wp2_with fail
              go_roundg (bs.length - (k + 1))
              case measure => omega
              case rel => exact ⟨k + 1, left, next, S, by omega, rfl, by go_num, rfl, hleft, rfl, by omega, by omega, HS⟩
            · skip
              obtain ⟨m, hm⟩ : ∃ m, S.length = m + 1 := ⟨S.length - 1, by omega⟩
              have hSne : S ≠ [] := fun e => hn0 (by rw [e]; rfl)
              obtain ⟨g1, cap1, e1, -, hg1, hcap1, -⟩ := HS.out.ms.r1.shape (by simpa using hSne)
              obtain ⟨g2, cap2, e2, -, hg2, hcap2, -⟩ := HS.out.ms.r2.shape (by simpa using hSne)
              obtain ⟨g3, cap3, e3, -, hg3, hcap3, -⟩ := HS.out.ms.r3.shape (by simpa using hSne)
              simp only [List.length_map, hm] at e1 e2 e3 hcap1 hcap2 hcap3
              rw [hm] at HS hSk ⊢
              cases e1
              subst e2 e3
              have HXM := hid_of (it_take S m (by omega)).1
              obtain ⟨x, HX⟩ : ∃ x, Hid (S.getD m It.zero = x) := ⟨_, hid_of rfl⟩
              rw [HX.out] at HXM
              obtain ⟨bx, hpx, -⟩ := HS.out.ms.it x HXM.out
              have hsm : S[m]? = some x := by
                have := HX.out
                rw [List.getD_eq_getElem?_getD] at this
                have hlt2 : m < S.length := by omega
                rw [List.getElem?_eq_getElem hlt2] at this ⊢
                rw [← this]; rfl
              have HSM := hid_of hsm
              have hcv : wr.cell? ⟨g1, m, none⟩ = some (.pointer (some ⟨bx, 0, none⟩)) := by
                rw [HS.out.ms.r1.at_ rfl (by simp [hm]) m (by omega), List.getElem?_map, HSM.out, ← hpx]; rfl
              have HPX := hid_of hpx
              clear hsm hpx
              have HM5 : Hid (MS w4 (S ++ [x]) (S.map It.p) (S.map It.str) (S.map It.num) (.slice (some ⟨g1, 0, none⟩) (m + 1) lc) (.slice (some ⟨g2, 0, none⟩) (m + 1) cap2) (.slice (some ⟨g3, 0, none⟩) (m + 1) cap3) wr) := HS.out.ms.add x (HS.out.ms.it x HXM.out)
              have HOK : Hid (∀ x ∈ S, x.ok) := HS.out.ok
              have HXN : Hid (x.ok ∧ [Value.pointer (some ⟨bx, 0, none⟩)] = [x].map It.p ∧ [Value.string x.t] = [x].map It.str ∧ [Value.int .i64 x.n] = [x].map It.num) := ⟨HOK.out x HXM.out, by rw [← HPX.out]; rfl, rfl, rfl⟩
              clear HS
              have hl1 : (S.map It.p).length ≤ 1073741824 := by simp; omega
              have hl2 : (S.map It.str).length ≤ 1073741824 := by simp; omega
              have hl3 : (S.map It.num).length ≤ 1073741824 := by simp; omega
              have HM6 : ∀ ob, Hid (MS w4 (S ++ [x]) (S.map It.p) (S.map It.str) (S.map It.num) (.slice (some ⟨g1, 0, none⟩) (m + 1) lc) (.slice (some ⟨g2, 0, none⟩) (m + 1) cap2) (.slice (some ⟨g3, 0, none⟩) (m + 1) cap3) (wr.alloc ob)) := fun ob => HM5.out.later ((Below.refl _ _).alloc (Nat.le_refl _) _)
              have hsz6 : ∀ ob, w4.heap.size ≤ (wr.alloc ob).heap.size := fun ob => (HM6 ob).out.bel.size
              have hcn6 : ∀ x ty, (wr.alloc (.cells #[x] ty)).cell? ⟨wr.heap.size, 0, none⟩ = some x := fun x ty => by
                simp only [World.cell?, heap_alloc_new]; rfl
              go_wp2_with (at_builtin; refine wp_app_row rfl _ _ 28 32 rfl Try.underlying28 Try.info32 w4.heap.size _ _ rfl (HM6 _).out.r1 ⟨_, 0, none⟩ 1 (.pointer (some ⟨bx, 0, none⟩)) rfl (hcn6 _ _) rfl hl1 (hsz6 _) ?_)
              intro v6 w6 hr6 hg6 hp6
              have HM7 := hid_of ((HM6 _).out.app1 hr6 hg6 (by simpa using hp6))
              clear hr6 hg6 hp6 HM6 HM5 hcn6 hsz6
              have hcs : w6.cell? ⟨g2, m, none⟩ = some (.string x.t) := by
                rw [HM7.out.r2.at_ rfl (by simp [hm]) m (by omega), List.getElem?_map, HSM.out]; rfl
              have HM8 : ∀ ob, Hid (MS w4 (S ++ [x]) (S.map It.p ++ [.pointer (some ⟨bx, 0, none⟩)]) (S.map It.str) (S.map It.num) v6 (.slice (some ⟨g2, 0, none⟩) (m + 1) cap2) (.slice (some ⟨g3, 0, none⟩) (m + 1) cap3) (w6.alloc ob)) := fun ob => HM7.out.later ((Below.refl _ _).alloc (Nat.le_refl _) _)
              have hsz8 : ∀ ob, w4.heap.size ≤ (w6.alloc ob).heap.size := fun ob => (HM8 ob).out.bel.size
              have hcn8 : ∀ x ty, (w6.alloc (.cells #[x] ty)).cell? ⟨w6.heap.size, 0, none⟩ = some x := fun x ty => by
                simp only [World.cell?, heap_alloc_new]; rfl
              go_wp2_with (at_builtin; refine wp_app_row rfl _ _ 22 9 rfl Try.underlying22 Try.info9' w4.heap.size _ _ rfl (HM8 _).out.r2 ⟨_, 0, none⟩ 1 (.string x.t) rfl (hcn8 _ _) rfl hl2 (hsz8 _) ?_)
              intro v8 w8 hr8 hg8 hp8
              have HM9 := hid_of ((HM8 _).out.app2 hr8 hg8 (by simpa using hp8))
              clear hr8 hg8 hp8 HM8 HM7 hcn8 hsz8
              have hcw : w8.cell? ⟨g3, m, none⟩ = some (.int .i64 x.n) := by
                rw [HM9.out.r3.at_ rfl (by simp [hm]) m (by omega), List.getElem?_map, HSM.out]; rfl
              have HM10 : ∀ ob, Hid (MS w4 (S ++ [x]) (S.map It.p ++ [.pointer (some ⟨bx, 0, none⟩)]) (S.map It.str ++ [.string x.t]) (S.map It.num) v6 v8 (.slice (some ⟨g3, 0, none⟩) (m + 1) cap3) (w8.alloc ob)) := fun ob => HM9.out.later ((Below.refl _ _).alloc (Nat.le_refl _) _)
              have hsz10 : ∀ ob, w4.heap.size ≤ (w8.alloc ob).heap.size := fun ob => (HM10 ob).out.bel.size
              have hcn10 : ∀ x ty, (w8.alloc (.cells #[x] ty)).cell? ⟨w8.heap.size, 0, none⟩ = some x := fun x ty => by
                simp only [World.cell?, heap_alloc_new]; rfl
              go_wp2_with (at_builtin; refine wp_app_row rfl _ _ 29 3 rfl Try.underlying29 Try.info3 w4.heap.size _ _ rfl (HM10 _).out.r3 ⟨_, 0, none⟩ 1 (.int .i64 x.n) rfl (hcn10 _ _) rfl hl3 (hsz10 _) ?_)
              intro v10 w10 hr10 hg10 hp10
              have HM11 := hid_of ((HM10 _).out.app3 hr10 hg10 (by simpa using hp10))
              clear hr10 hg10 hp10 HM10 HM9 hcn10 hsz10
              have HR : Hid (RS w4 (S ++ [x]) v6 v8 v10 w10) := by
                refine ⟨?_, fun y hy => ?_⟩
                · have h9 := HM11.out
                  rw [List.map_append, List.map_append, List.map_append]
                  rw [HXN.out.2.1, HXN.out.2.2.1, HXN.out.2.2.2] at h9
                  exact h9
                · rcases List.mem_append.1 hy with hy | hy
                  · exact HOK.out y hy
                  · simp at hy; subst hy; exact HXN.out.1
              go_wp2_with fail
              go_roundg (bs.length - (k + 1))
              case measure => omega
              case rel => exact ⟨k + 1, left, next, S ++ [x], by omega, rfl, by go_num, rfl, hleft, rfl, by omega, by simp; omega, HR⟩
          · by_cases hn0 : S.length = 0
            · go_wp2_with fail
              go_roundg (bs.length - (k + 1))
              case measure => omega
              case rel => exact ⟨k + 1, left, next, S, by omega, rfl, by go_num, rfl, hleft, rfl, by omega, by omega, HS⟩
            · skip
              have hSne : S ≠ [] := fun e => hn0 (by rw [e]; rfl)
              obtain ⟨g1, cap1, e1, -, hg1, hcap1, -⟩ := HS.out.ms.r1.shape (by simpa using hSne)
              obtain ⟨g2, cap2, e2, -, hg2, hcap2, -⟩ := HS.out.ms.r2.shape (by simpa using hSne)
              obtain ⟨g3, cap3, e3, -, hg3, hcap3, -⟩ := HS.out.ms.r3.shape (by simpa using hSne)
              simp only [List.length_map] at e1 e2 e3 hcap1 hcap2 hcap3
              cases e1
              subst e2 e3
              obtain ⟨n, hn⟩ : ∃ n, S.length = n := ⟨_, rfl⟩
              rw [hn] at HS hSk hcap1 hcap2 hcap3 hn0 ⊢
              obtain ⟨T, U, HTU, HU⟩ : ∃ T U, Hid (S = T ++ U) ∧ Hid (U.length = min ob n) := ⟨S.take (n - min ob n), S.drop (n - min ob n), (List.take_append_drop _ _).symm, by
                show (S.drop (n - min ob n)).length = min ob n
                rw [List.length_drop, hn]; omega⟩
              have hsub := HTU.out
              clear HTU hSne
              subst hsub
              rw [List.length_append] at hn
              subst hn
              have hU1 : 0 < U.length := by have := HU.out; omega
              go_upto_if 119 with fail
              go_cut [14] (fun kv w' => kv = .int .i64 (U.length : Nat) ∧ w' = wr)
              case first =>
                by_cases hcond : T.length + U.length < ob
                · have hT : T.length = 0 := by have := HU.out; omega
                  go_wp2_with fail
                  go_meet
                  case rel => exact ⟨by go_num, rfl⟩
                · have hT : ob = U.length := by have := HU.out; omega
                  go_wp2_with fail
                  go_meet
                  case rel => exact ⟨by rw [hT], rfl⟩
              case rest =>
                obtain ⟨rfl, rfl⟩ := hcut
                have HTU : Hid ((∀ x ∈ T, x ∈ T ++ U) ∧ (∀ x ∈ U, x ∈ T ++ U)) := ⟨fun x hx => by simp [hx], fun x hx => by simp [hx]⟩
                have HUO : Hid (∀ x ∈ U, x.ok) := fun x hx => HS.out.ok x (HTU.out.2 x hx)
                have HUg : ∀ q, q < U.length → (T ++ U)[T.length + q]? = some (U.getD q It.zero) := fun q hq => by
                  rw [List.getElem?_append_right (by omega), Nat.add_sub_cancel_left, List.getD_eq_getElem?_getD, List.getElem?_eq_getElem hq]; rfl
                have HC1 : Hid (∀ q, q < U.length → wc.cell? ⟨g1, T.length + q, none⟩ = some (U.getD q It.zero).p) := fun q hq => by
                  rw [HS.out.ms.r1.at_ rfl (by simp) (T.length + q) (by omega), List.getElem?_map, HUg q hq]; rfl
                have HC2 : Hid (∀ q, q < U.length → wc.cell? ⟨g2, T.length + q, none⟩ = some (.string (U.getD q It.zero).t)) := fun q hq => by
                  rw [HS.out.ms.r2.at_ rfl (by simp) (T.length + q) (by omega), List.getElem?_map, HUg q hq]; rfl
                have HC3 : Hid (∀ q, q < U.length → wc.cell? ⟨g3, T.length + q, none⟩ = some (.int .i64 (U.getD q It.zero).n)) := fun q hq => by
                  rw [HS.out.ms.r3.at_ rfl (by simp) (T.length + q) (by omega), List.getElem?_map, HUg q hq]; rfl
                clear HUg
                go_wp2_with fail
                refine (measure_any g2 g3 cap2 cap3 _ T.length left U wc rfl (by omega) hleft (fun x hx => ⟨(HUO.out x hx).2.2, (HUO.out x hx).2.1⟩) HC2.out HC3.out).mono ?_
                rintro e w5 ⟨sz, wt, ok, rfl, rfl, hok⟩
                cases ok with
                | false =>
                  clear hok HC1 HC2 HC3
                  go_wp2_with fail
                  go_roundg (bs.length - (k + 1))
                  case measure => omega
                  case rel => exact ⟨k + 1, left, next, T ++ U, by omega, rfl, by go_num, rfl, hleft, rfl, by omega, by rw [List.length_append]; omega, HS⟩
                | true =>
                  obtain ⟨hsz, hwt, hszl, hwtl⟩ := hok rfl
                  clear hok HC3
                  have HSZ := hid_of hsz
                  have HWT := hid_of hwt
                  clear hsz hwt
                  have HUV : Hid (∀ x ∈ U, IsV w5 (rows3 (.slice (some ⟨g1, 0, none⟩) (T.length + U.length) lc) (.slice (some ⟨g2, 0, none⟩) (T.length + U.length) cap2) (.slice (some ⟨g3, 0, none⟩) (T.length + U.length) cap3)) x.p (bl x.t) x.k) := fun x hx => HS.out.ms.it x (HTU.out.2 x hx)
                  have HLOW := hid_of HS.out.ms.low
                  go_wp2_with fail
                  refine (joinTop_any g1 g2 lc cap2 T.length sz U (rows3 (.slice (some ⟨g1, 0, none⟩) (T.length + U.length) lc) (.slice (some ⟨g2, 0, none⟩) (T.length + U.length) cap2) (.slice (some ⟨g3, 0, none⟩) (T.length + U.length) cap3)) w5 (by omega) HSZ.out (by omega) HC1.out HC2.out HUV.out HLOW.out hg1 hg2).mono ?_
                  rintro e w6 ⟨b6, rfl, hv6, hb6⟩
                  have HV6 := hid_of hv6
                  have HB6 := hid_of hb6
                  clear hv6 hb6 HC1 HC2 HUV HLOW
                  obtain ⟨xn, HXE⟩ : ∃ xn, Hid (xn = It.join b6 wt U) := ⟨_, hid_of rfl⟩
                  have HMP : Hid (MS w4 (T ++ [xn]) (T.map It.p) (T.map It.str) (T.map It.num) (.slice (some ⟨g1, 0, none⟩) T.length lc) (.slice (some ⟨g2, 0, none⟩) T.length cap2) (.slice (some ⟨g3, 0, none⟩) T.length cap3) w6) := by
                    refine MS.pop (U := U) rfl ((HS.out.ms.later HB6.out).add _ ?_)
                    rw [HXE.out, It.join_bl]
                    exact HV6.out
                  have HXN : Hid (xn.ok ∧ [Value.pointer (some ⟨b6, 0, none⟩)] = [xn].map It.p ∧ [Value.string ⟨(cat U).toArray⟩] = [xn].map It.str ∧ [Value.int .i64 wt] = [xn].map It.num) := by
                    rw [HXE.out]
                    exact ⟨It.join_ok HUO.out HWT.out hwtl (by have := HSZ.out; omega), rfl, rfl, rfl⟩
                  have HTO : Hid (∀ x ∈ T, x.ok) := fun x hx => HS.out.ok x (HTU.out.1 x hx)
                  clear HV6 HB6 HS HTU HUO HSZ HWT HXE hg1 hg2 hg3 hcell'
                  have hl1 : (T.map It.p).length ≤ 1073741824 := by simp; omega
                  have hl2 : (T.map It.str).length ≤ 1073741824 := by simp; omega
                  have hl3 : (T.map It.num).length ≤ 1073741824 := by simp; omega
                  have HM6 : ∀ oa ob, Hid (MS w4 (T ++ [xn]) (T.map It.p) (T.map It.str) (T.map It.num) (.slice (some ⟨g1, 0, none⟩) T.length lc) (.slice (some ⟨g2, 0, none⟩) T.length cap2) (.slice (some ⟨g3, 0, none⟩) T.length cap3) ((w6.alloc oa).alloc ob).drew) := fun oa ob => HMP.out.later (((Below.refl _ _).alloc (Nat.le_refl _) _).alloc (by simp) _).drew
                  have hsz6 : ∀ oa ob, w4.heap.size ≤ (((w6.alloc oa).alloc ob).drew).heap.size := fun oa ob => (HM6 oa ob).out.bel.size
                  have hcn6 : ∀ oa x ty, (((w6.alloc oa).alloc (.cells #[x] ty)).drew).cell? ⟨w6.heap.size + 1, 0, none⟩ = some x := fun oa x ty => by
                    have h := (two_allocs w6 oa (.cells #[x] ty)).2
                    show ((w6.alloc oa).alloc (.cells #[x] ty)).cell? ⟨w6.heap.size + 1, 0, none⟩ = some x
                    simp only [World.cell?, h]; rfl
                  have hi1 : (0 : Int) ≤ (T.length : Int) := by omega
                  have hi2 : (T.length : Int) ≤ (lc : Int) := by omega
                  have hi3 : IntKind.i64.wrap (T.length : Int) = (T.length : Int) := IntWalk.i64_in _ (by omega)
                  go_upto_region 40 with fail
                  go_region_law (refine step_app_row rfl _ _ 28 32 rfl Try.underlying28 Try.info32 w4.heap.size _ _ rfl (HM6 _ _).out.r1 ⟨_, 0, none⟩ 1 (.pointer (some ⟨b6, 0, none⟩)) rfl (hcn6 _ _ _) rfl hl1 (hsz6 _ _) ?_; intro v7 w7 hr7 hg7 hp7)
                  have HM7 := hid_of ((HM6 _ _).out.app1 hr7 hg7 hp7)
                  clear hr7 hg7 hp7 HM6 HMP hcn6 hsz6 hi1 hi2 hi3
                  have HM8 : ∀ ob, Hid (MS w4 (T ++ [xn]) (T.map It.p ++ [.pointer (some ⟨b6, 0, none⟩)]) (T.map It.str) (T.map It.num) v7 (.slice (some ⟨g2, 0, none⟩) T.length cap2) (.slice (some ⟨g3, 0, none⟩) T.length cap3) (w7.alloc ob)) := fun ob => HM7.out.later ((Below.refl _ _).alloc (Nat.le_refl _) _)
                  have hsz8 : ∀ ob, w4.heap.size ≤ (w7.alloc ob).heap.size := fun ob => (HM8 ob).out.bel.size
                  have hcn8 : ∀ x ty, (w7.alloc (.cells #[x] ty)).cell? ⟨w7.heap.size, 0, none⟩ = some x := fun x ty => by
                    simp only [World.cell?, heap_alloc_new]; rfl
                  go_wp2_with (at_builtin; refine wp_app_row rfl _ _ 22 9 rfl Try.underlying22 Try.info9' w4.heap.size _ _ rfl (HM8 _).out.r2 ⟨_, 0, none⟩ 1 (.string ⟨(cat U).toArray⟩) rfl (hcn8 _ _) rfl hl2 (hsz8 _) ?_)
                  intro v8 w8 hr8 hg8 hp8
                  have HM9 := hid_of ((HM8 _).out.app2 hr8 hg8 (by simpa using hp8))
                  clear hr8 hg8 hp8 HM8 HM7 hcn8 hsz8
                  have HM10 : ∀ ob, Hid (MS w4 (T ++ [xn]) (T.map It.p ++ [.pointer (some ⟨b6, 0, none⟩)]) (T.map It.str ++ [.string ⟨(cat U).toArray⟩]) (T.map It.num) v7 v8 (.slice (some ⟨g3, 0, none⟩) T.length cap3) (w8.alloc ob)) := fun ob => HM9.out.later ((Below.refl _ _).alloc (Nat.le_refl _) _)
                  have hsz10 : ∀ ob, w4.heap.size ≤ (w8.alloc ob).heap.size := fun ob => (HM10 ob).out.bel.size
                  have hcn10 : ∀ x ty, (w8.alloc (.cells #[x] ty)).cell? ⟨w8.heap.size, 0, none⟩ = some x := fun x ty => by
                    simp only [World.cell?, heap_alloc_new]; rfl
                  go_wp2_with (at_builtin; refine wp_app_row rfl _ _ 29 3 rfl Try.underlying29 Try.info3 w4.heap.size _ _ rfl (HM10 _).out.r3 ⟨_, 0, none⟩ 1 (.int .i64 wt) rfl (hcn10 _ _) rfl hl3 (hsz10 _) ?_)
                  intro v10 w10 hr10 hg10 hp10
                  have HM11 := hid_of ((HM10 _).out.app3 hr10 hg10 (by simpa using hp10))
                  clear hr10 hg10 hp10 HM10 HM9 hcn10 hsz10
                  have HR : Hid (RS w4 (T ++ [xn]) v7 v8 v10 w10) := by
                    refine ⟨?_, fun y hy => ?_⟩
                    · have h9 := HM11.out
                      rw [List.map_append, List.map_append, List.map_append]
                      rw [HXN.out.2.1, HXN.out.2.2.1, HXN.out.2.2.2] at h9
                      exact h9
                    · rcases List.mem_append.1 hy with hy | hy
                      · exact HTO.out y hy
                      · simp at hy; subst hy; exact HXN.out.1
                  go_wp2_with fail
                  go_roundg (bs.length - (k + 1))
                  case measure => omega
                  case rel => exact ⟨k + 1, left - sz, next, T ++ [xn], by omega, rfl, by go_num, by congr 1; omega, by omega, rfl, by omega, by simp; omega, HR⟩
      · have hlast : ¬ k < bs.length := hlt
        have HBW := hid_of HS.out.ms.bel
        have hsl2 : S.length ≤ 1048576 := by omega
        go_upto_if 173 with fail
        go_cut [21] (fun wv w' => ∃ t, wv = .string t ∧ Hid (FinAt w4 wr.heap.size t w'))
        case first =>
          by_cases hn0 : S.length = 0
          · go_wp2_with fail
            go_meet
            case rel => exact ⟨_, rfl, FinAt.start HBW.out⟩
          have hSne : S ≠ [] := fun e => hn0 (by rw [e]; rfl)
          obtain ⟨g1, cap1, e1, -, hg1, hcap1, -⟩ := HS.out.ms.r1.shape (by simpa using hSne)
          obtain ⟨g2, cap2, e2, -, hg2, hcap2, -⟩ := HS.out.ms.r2.shape (by simpa using hSne)
          obtain ⟨g3, cap3, e3, -, hg3, hcap3, -⟩ := HS.out.ms.r3.shape (by simpa using hSne)
          simp only [List.length_map] at e1 e2 e3 hcap1 hcap2 hcap3
          cases e1
          subst e2 e3
          have HG : ∀ q, q < S.length → S[q]? = some (S.getD q It.zero) := fun q hq => by
            rw [List.getD_eq_getElem?_getD, List.getElem?_eq_getElem hq]; rfl
          have HBA : ∀ ob, Hid (Below wr.heap.size wr (wr.alloc ob)) := fun ob => (Below.refl _ _).alloc (Nat.le_refl _) _
          have HC1 : Hid (∀ ob q, q < S.length → (wr.alloc ob).cell? ⟨g1, q, none⟩ = some (S.getD q It.zero).p) := fun ob q hq => by
            rw [(HBA ob).out.cell (p := ⟨g1, q, none⟩) hg1, HS.out.ms.r1.at_ rfl (by simp) q hq, List.getElem?_map, HG q hq]; rfl
          have HC2 : Hid (∀ ob q, q < S.length → (wr.alloc ob).cell? ⟨g2, q, none⟩ = some (.string (S.getD q It.zero).t)) := fun ob q hq => by
            rw [(HBA ob).out.cell (p := ⟨g2, q, none⟩) hg2, HS.out.ms.r2.at_ rfl (by simp) q hq, List.getElem?_map, HG q hq]; rfl
          have HC3 : Hid (∀ ob q, q < S.length → (wr.alloc ob).cell? ⟨g3, q, none⟩ = some (.int .i64 (S.getD q It.zero).n)) := fun ob q hq => by
            rw [(HBA ob).out.cell (p := ⟨g3, q, none⟩) hg3, HS.out.ms.r3.at_ rfl (by simp) q hq, List.getElem?_map, HG q hq]; rfl
          clear HG
          obtain ⟨G, HGD⟩ : ∃ G : Nat → Prop, Hid (G = fun x => rows3 (.slice (some ⟨g1, 0, none⟩) S.length lc) (.slice (some ⟨g2, 0, none⟩) S.length cap2) (.slice (some ⟨g3, 0, none⟩) S.length cap3) x ∨ x = wr.heap.size) := ⟨_, hid_of rfl⟩
          have HV : Hid (∀ x ∈ S, IsV (wr.alloc (.cells #[.pointer none] 32)) G x.p (bl x.t) x.k) := fun x hx => by
            refine (HS.out.ms.it x hx).turn (fun y hy _ => (HBA _).out.block y hy) (fun y hy => ?_)
            rw [HGD.out] at hy
            rcases hy with hy | hy
            · exact Or.inl hy
            · right; omega
          have HW : Hid (∀ x ∈ S, IsV wr (rows3 (.slice (some ⟨g1, 0, none⟩) S.length lc) (.slice (some ⟨g2, 0, none⟩) S.length cap2) (.slice (some ⟨g3, 0, none⟩) S.length cap3)) x.p (bl x.t) x.k) := fun x hx => HS.out.ms.it x hx
          have HGB : Hid (G wr.heap.size) := by rw [HGD.out]; exact Or.inr rfl
          have HGL : Hid (∀ x, (wr.alloc (.cells #[.pointer none] 32)).heap.size ≤ x → ¬ G x) := fun x hx e => by
            have hs : (wr.alloc (.cells #[.pointer none] 32)).heap.size = wr.heap.size + 1 := by simp
            rw [HGD.out] at e
            rcases e with e | e
            · exact HS.out.ms.low x (by omega) e
            · omega
          have HOK : Hid (∀ x ∈ S, x.ok) := HS.out.ok
          have HPB : Hid (∀ x ∈ S, ∃ b, x.p = .pointer (some ⟨b, 0, none⟩)) := fun x hx => by
            obtain ⟨b, h, _⟩ := HS.out.ms.it x hx
            exact ⟨b, h⟩
          have HX : ∀ q, q < S.length → S.getD q It.zero ∈ S := fun q hq => (it_take S q hq).1
          clear HS HGD
          by_cases hn1 : S.length = 1
          · have h1 := HC1.out (.cells #[.pointer none] 32) 0 (by omega)
            have h2 := fun ob => HC2.out ob 0 (by omega)
            have hx := HX 0 (by omega)
            obtain ⟨x, HXE⟩ : ∃ x, Hid (S.getD 0 It.zero = x) := ⟨_, hid_of rfl⟩
            rw [HXE.out] at h1 hx
            simp only [HXE.out] at h2
            obtain ⟨bx, hbx⟩ := HPB.out x hx
            have HXV := hid_of (HW.out x hx)
            have HXO := hid_of (HOK.out x hx)
            rw [hbx] at h1
            rw [hbx] at HXV
            clear hbx HX HC1 HC2 HC3 hx
            have HF : Hid (FinAt w4 wr.heap.size x.t (wr.alloc (.cells #[.pointer (some ⟨bx, 0, none⟩)] 32))) := FinAt.direct HBW.out HXV.out HXO.out.2.2 (by have := HXO.out.1; have := HXO.out.2.1; omega)
            go_wp2_with fail
            go_meet
            case rel => exact ⟨_, rfl, HF⟩
          · go_wp2_with fail
            refine (measure_any g2 g3 cap2 cap3 _ 0 left S (wr.alloc (.cells #[.pointer none] 32)) (by omega) (by omega) hleft (fun x hx => ⟨(HOK.out x hx).2.2, (HOK.out x hx).2.1⟩) (fun q hq => by rw [Nat.zero_add]; exact HC2.out _ q hq) (fun q hq => by rw [Nat.zero_add]; exact HC3.out _ q hq)).mono ?_
            rintro e w5 ⟨sz, wt, ok, rfl, hw5, hok⟩
            cases ok with
            | false =>
              clear hok
              have h1 := HC1.out (.cells #[.pointer none] 32) (S.length - 1) (by omega)
              have h2 := fun ob => HC2.out ob (S.length - 1) (by omega)
              have hx := HX (S.length - 1) (by omega)
              obtain ⟨x, HXE⟩ : ∃ x, Hid (S.getD (S.length - 1) It.zero = x) := ⟨_, hid_of rfl⟩
              rw [HXE.out] at h1 hx
              simp only [HXE.out] at h2
              obtain ⟨bx, hbx⟩ := HPB.out x hx
              have HXV := hid_of (HW.out x hx)
              have HXO := hid_of (HOK.out x hx)
              rw [hbx] at h1
              rw [hbx] at HXV
              clear hbx HX HC1 HC2 HC3 hx
              have HF : Hid (FinAt w4 wr.heap.size x.t (wr.alloc (.cells #[.pointer (some ⟨bx, 0, none⟩)] 32))) := FinAt.direct HBW.out HXV.out HXO.out.2.2 (by have := HXO.out.1; have := HXO.out.2.1; omega)
              subst hw5
              go_wp2_with fail
              go_meet
              case rel => exact ⟨x.t, rfl, HF⟩
            | true =>
              obtain ⟨hsz, hwt, hszl, hwtl⟩ := hok rfl
              clear hok
              have HSZ := hid_of hsz
              have HWT := hid_of hwt
              clear hsz hwt
              subst hw5
              have HU : Hid (wgt S + 2 ≤ 16777216) := by
                have h1 := wgt_le S HOK.out
                have h2 := HWT.out
                have h3 : wgt S + 2 ≤ 16777216 := by omega
                exact h3
              have hJ := joinTop_any g1 g2 lc cap2 0 sz S G (wr.alloc (.cells #[.pointer none] 32)) (by omega) HSZ.out (by omega) (fun q hq => by rw [Nat.zero_add]; exact HC1.out _ q hq) (fun q hq => by rw [Nat.zero_add]; exact HC2.out _ q hq) HV.out HGL.out (by have := (HBA (.cells #[.pointer none] 32)).out.size; omega) (by have := (HBA (.cells #[.pointer none] 32)).out.size; omega)
              rw [Nat.zero_add] at hJ
              have HJ := hid_of hJ
              clear hJ HC1 HC2 HC3 HX HV HW HPB HGL
              go_wp2_with fail
              refine HJ.out.mono ?_
              rintro e w6 ⟨b6, rfl, hv6, hb6⟩
              have HF : Hid (FinAt w4 wr.heap.size ⟨(cat S).toArray⟩ (w6.setCell ⟨wr.heap.size, 0, none⟩ (.pointer (some ⟨b6, 0, none⟩)))) := FinAt.store (k := wgt S + 2) HBW.out hb6 (by
                have e : bl (⟨(cat S).toArray⟩ : ByteArray) = cat S := by simp [bl]
                rw [e]; exact hv6) HGB.out (by
                rw [← bl_length]
                have e : bl (⟨(cat S).toArray⟩ : ByteArray) = cat S := by simp [bl]
                rw [e, ← HSZ.out]; omega) HU.out
              have hres6 : w6.heap[wr.heap.size]? = some (.cells #[.pointer none] 32 (0, 0)) := by
                rw [hb6.block _ (by simp)]; exact heap_alloc_new wr _
              have hcl := cell_one hres6
              have hfl := frozen_one hres6
              clear hv6 hb6 hres6 HJ HSZ HWT HOK HGB HU
              go_wp2_with fail
              go_meet
              case rel => exact ⟨_, rfl, HF⟩
        case rest =>
          obtain ⟨t, rfl, HF⟩ := hcut
          obtain ⟨p, hp1, hp2, hp3⟩ := HF.out.is
          have hcl := cell_one hp1
          have HP2 := hid_of hp2
          clear hp1 hp2
          go_wp2_with fail
          refine (final_string _ p t HP2.out).mono ?_
          rintro e w8 ⟨rfl, hb8⟩
          have HF8 := hid_of (HF.out.later hb8)
          have HP8 := hid_of (HP2.out.later hb8)
          obtain ⟨p', hp1, hp2, -⟩ := HF8.out.is
          have hcl8 : w8.cell? ⟨wr.heap.size, 0, none⟩ = some p := by
            rw [hb8.cell (p := ⟨wr.heap.size, 0, none⟩) (World.block_lt_of_cell? _ ⟨wr.heap.size, 0, none⟩ hcl)]; exact hcl
          clear hp1 hp2 hb8 hcl HP2 HF
          go_wp2_with fail
          refine (final_string _ p t HP8.out).mono ?_
          rintro e w9 ⟨rfl, hb9⟩
          have HF9 := hid_of (HF8.out.later hb9)
          clear hb9
          go_wp2_with fail
          go_ret
          exact AnsK.mk rfl (HB4.out.trans (HF9.out.bel.mono HB4.out.size))

end Go.Proofs.Qxb6600249a
