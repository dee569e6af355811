/-
  DERIVED, BY AN AI AGENT. Seat b6001106a: THE WALK of (*node).child (35) at a mixed segment; child at every segment; ZZChild (23), ZZSetRoute (36), ZZNewNode (22).
-/
import Derived.Test.Qxb6001106aChild
import Derived.Test.Qxb6001106aMix
namespace Go.Proofs.Qxb6001106a
open Go.RowKit
open Go.ChangeMaps (setBlock)

set_option maxHeartbeats 2000000 in
set_option maxRecDepth 100000 in
theorem child_mixed (B0 : Nat) (w : World) (own : Own) (B : List Key → Nat) (N : Trie) (cnt : Nat) (p : List Key) (i : NI) (hI : Inv B0 w own B N cnt) (hB0 : B0 ≤ w.heap.size) (hp : N p = some i) (bs os n c : Nat) (ss : List ByteArray)
    (hn : n = ss.length) (h2 : 2 ≤ ss.length) (hnp : bls ss ≠ [[], []]) (hc : RowAt w bs os ss) (hbs : bs < w.heap.size) (hseg : SegOK w own (some ⟨bs, os, none⟩) c ss) (hcnt : cnt ≤ 1073741824) :
    Calls Try.prog 35 #[.pointer (some ⟨B p, 0, none⟩), .slice (some ⟨bs, os, none⟩) n c] w (ChildPost B0 w own B N cnt p ss) := by
  subst hn
  have hk := kind_mixed hnp (by omega)
  have hmm := @run_makeMap Try.prog
  have hq1 := fun (w : World) (r : Option Nat) => run_eql_map_nil (P := Try.prog) w 54 9 33 r Try.underlying54
  go_enter Try.func35, Try.ntmps35
  go_wp2_with fail
  refine (param_no bs os _ c ss w rfl hc hnp).mono ?_
  rintro e w1 ⟨rfl, rfl⟩
  go_wp2_with fail
  refine (literal_no _ _ _ _ (by omega)).mono ?_
  rintro e w1 ⟨rfl, rfl⟩
  go_wp2_with fail
  refine (key_any bs os _ c ss _ rfl hseg.2.1 hseg.2.2.1 hbs hc).mono ?_
  rintro e w2 ⟨⟨k, rfl, hkk⟩, hb2⟩
  rw [← hkk] at hk
  have hI2 := hI.later hb2
  have HO : Hid (Out w1 own w2 own) := Out.of_below hb2
  have hB2 : B0 ≤ w2.heap.size := Nat.le_trans hB0 hb2.size
  have HSEG : Hid (SegOK w2 own (some ⟨bs, os, none⟩) c ss) := hseg.out (by omega) HO.out
  clear hI hb2 hB0 hseg hc hbs hnp hkk
  have HP : Hid (N p = some i ∧ kindOf ss = (2, bl k)) := ⟨hp, hk⟩
  obtain ⟨c0, c1, c2, hat, hown, hm0, hm2, hmix⟩ := hI2.node p i hp
  have hc2 := hat.cell2
  have hlt := hat.lt
  have hlk := hm2.lookup k
  have hfr := hat.frozen 2
  obtain ⟨r, rfl⟩ : ∃ r, c2 = .map r := by
    rcases hm2 with ⟨rfl, _⟩ | ⟨m, _, _, rfl, _⟩
    · exact ⟨_, rfl⟩
    · exact ⟨_, rfl⟩
  clear hp hk hat hown hm0 hmix
  cases hch : childBlk B N (p ++ [(2, bl k)]) with
  | some b' =>
    simp only [hch] at hlk
    have hlk2 : (Instr.lookup 54 (.map r) (.string k) false).run Try.prog w2 = .ok (.pointer (some ⟨b', 0, none⟩)) w2 := hlk
    clear hlk
    obtain ⟨hb', j, hj⟩ := childBlk_some hch
    have HQ : Hid (ChildPost B0 w1 own B N cnt p ss (.returned (.pointer (some ⟨b', 0, none⟩))) w2) := by
      have := ChildPost.old (s := ss) (j := j) hI2 HO.out (by rw [HP.out.2]; exact hj)
      rw [HP.out.2, hb'] at this; exact this
    clear hch hb' hj hm2 hI2
    go_wp2_with fail
    go_ret
    exact HQ.out
  | none =>
    simp only [hch] at hlk
    have hlk2 : (Instr.lookup 54 (.map r) (.string k) false).run Try.prog w2 = .ok (.pointer none) w2 := hlk
    have hchn := childBlk_none hch
    have hc2' : ∀ o, (w2.alloc o).cell? ⟨B p, 2, none⟩ = some (.map r) := fun o => by rw [World.cell?_alloc_past _ _ _ hlt, hc2]
    have hfr' : ∀ o, (w2.alloc o).frozen? ⟨B p, 2, none⟩ = false := fun o => by rw [World.frozen?_alloc_old _ _ _ (by show B p ≠ _; omega)]; exact hfr
    clear hlk hch
    go_upto_if 74 with fail
    go_cut [] (fun wr => ∃ own' m es clk, Inv B0 wr own' B N cnt ∧ Out w2 own wr own' ∧ wr.cell? ⟨B p, 2, none⟩ = some (.map (some m)) ∧ wr.heap[m]? = some (.map es clk) ∧ AllStr es.toList)
    case first =>
      rcases hm2 with ⟨e, hg⟩ | ⟨m, es, clk, e, hom, hmb, hall, hlook⟩
      · cases e
        obtain ⟨own', k1, k2⟩ := map2_step hI2 hB2 HP.out.1 hc2
        have H1 : Hid (Inv B0 ((w2.setCell ⟨B p, 2, none⟩ (.map (some w2.heap.size))).alloc (.map #[] 0)) own' B N cnt ∧ Out w2 own ((w2.setCell ⟨B p, 2, none⟩ (.map (some w2.heap.size))).alloc (.map #[] 0)) own') := ⟨k1, k2⟩
        clear k1 k2
        go_wp2_with fail
        go_meet
        case rel =>
          refine ⟨own', w2.heap.size, #[], 0, H1.out.1, H1.out.2, ?_, heap_set_alloc_new _ _ _ _, by simp [AllStr]⟩
          rw [World.cell?_alloc_past _ _ _ (by simpa [World.setCell] using hlt)]
          exact World.cell?_setCell_same _ _ _ hc2
      · cases e
        go_wp2_with fail
        go_meet
        case rel => exact ⟨own, m, es, clk, hI2, Out.refl _ _, hc2, hmb, hall⟩
    case rest =>
      obtain ⟨own3, m, es, clk, hI3, ho3, hcm, hmb, hall⟩ := hcut
      clear hm2 hc2 hc2' hfr hfr' hmm hlk2 hI2
      have HSEG3 : Hid (SegOK wc own3 (some ⟨bs, os, none⟩) c ss) := HSEG.out.out (by omega) ho3
      have HO3 : Hid (Out w1 own wc own3) := HO.out.trans ho3
      have hB3 : B0 ≤ wc.heap.size := Nat.le_trans hB2 ho3.size
      obtain ⟨d0, d1, d2, hat, hown, hm0, hm2, hmix⟩ := hI3.node p i HP.out.1
      have hd2 : d2 = .map (some m) := by rw [hat.cell2] at hcm; exact Option.some.inj hcm
      subst hd2
      have hlook : look k es.toList = none := by
        rcases hm2 with ⟨e, _⟩ | ⟨m', es', clk', e, _, hmb', _, hlook⟩
        · cases e
        · cases e
          rw [hmb] at hmb'
          cases hmb'
          rw [hlook k]; simp only [childBlk, hchn]; rfl
      obtain ⟨xs, hrow, hog, hel⟩ := hmix
      have hml := hI3.count p i HP.out.1
      have hc1 := hat.cell1
      have hltc := hat.lt
      have hom : own3 m = some (p, 2) := by
        rcases hm2 with ⟨e, _⟩ | ⟨m', es', clk', e, hom, _⟩
        · cases e
        · cases e; exact hom
      have hmB : m ≠ B p := fun e => by rw [e, hown] at hom; cases hom
      have hmlt : m < wc.heap.size := hI3.lt m _ hom
      have hd1B : d1.ownBlock ≠ some (B p) := fun e => by have := hog _ e; rw [hown] at this; cases this
      have hd1m : d1.ownBlock ≠ some m := fun e => by have := hog _ e; rw [hom] at this; cases this
      have hc1' : ∀ o, (wc.alloc o).cell? ⟨B p, 1, none⟩ = some d1 := fun o => by rw [World.cell?_alloc_past _ _ _ hltc, hc1]
      have hrow2 : ((wc.alloc emptyNode).alloc (.cells #[.slice (some ⟨bs, os, none⟩) ss.length c, .pointer (some ⟨wc.heap.size, 0, none⟩)] 66)).ownsRow 0 66 2 d1 i.mixed.length xs := (hrow.alloc _).alloc _
      have HREST : Hid (∀ v' w5, w5.ownsRow 0 66 2 v' (i.mixed.length + 1) (xs ++ [.slice (some ⟨bs, os, none⟩) ss.length c, .pointer (some ⟨wc.heap.size, 0, none⟩)]) →
          ((wc.alloc emptyNode).alloc (.cells #[.slice (some ⟨bs, os, none⟩) ss.length c, .pointer (some ⟨wc.heap.size, 0, none⟩)] 66)).grownBy w5 d1.ownBlock → (∀ g, v'.ownBlock = some g → d1.ownBlock = some g ∨ g = wc.heap.size + 2) →
          w5.cell? ⟨B p, 1, none⟩ = some d1 ∧ w5.frozen? ⟨B p, 1, none⟩ = false ∧ (w5.setCell ⟨B p, 1, none⟩ v').cell? ⟨B p, 2, none⟩ = some (.map (some m)) ∧
          (Instr.mapUpdate 54 (.map (some m)) (.string k) (.pointer (some ⟨wc.heap.size, 0, none⟩))).run Try.prog (w5.setCell ⟨B p, 1, none⟩ v') = .ok () (setBlock (w5.setCell ⟨B p, 1, none⟩ v') m (.map (es.push { key := .string k, val := .pointer (some ⟨wc.heap.size, 0, none⟩), born := clk }) (clk + 1))) ∧
          ChildPost B0 w1 own B N cnt p ss (.returned (.pointer (some ⟨wc.heap.size, 0, none⟩))) (setBlock (w5.setCell ⟨B p, 1, none⟩ v') m (.map (es.push { key := .string k, val := .pointer (some ⟨wc.heap.size, 0, none⟩), born := clk }) (clk + 1)))) := by
        intro v' w5 g1 g2 g3
        have hsz5 : wc.heap.size + 2 ≤ w5.heap.size := by have := g2.size; simp at this; omega
        have hd1n : d1.ownBlock ≠ some wc.heap.size := fun e => by have := hI3.lt _ _ (hog _ e); omega
        have hblk : ∀ x, x < wc.heap.size → d1.ownBlock ≠ some x → w5.heap[x]? = wc.heap[x]? := fun x hx hne => by
          rw [g2.block x (by simp; omega) (fun e => hne e.symm), Below.heap_alloc _ _ _ (by simp; omega), Below.heap_alloc _ _ _ hx]
        have hblkn : w5.heap[wc.heap.size]? = some emptyNode := by
          rw [g2.block _ (by simp; omega) (fun e => hd1n e.symm), Below.heap_alloc _ _ _ (by simp)]
          exact heap_alloc_new wc _
        have hat5 : NodeAt w5 (B p) d0 d1 (.map (some m)) (ptrO (childBlk B N (p ++ [(0, [])]))) (ptrO i.route) := hat.of_block (hblk _ hltc hd1B)
        have hmb5 : w5.heap[m]? = some (.map es clk) := by rw [hblk m hmlt hd1m]; exact hmb
        have hmb6 : (w5.setCell ⟨B p, 1, none⟩ v').heap[m]? = some (.map es clk) := by rw [Below.heap_setCell _ _ _ _ hmB]; exact hmb5
        have hsz6 : (w5.setCell ⟨B p, 1, none⟩ v').heap.size = w5.heap.size := by simp [World.setCell]
        refine ⟨hat5.cell1, hat5.frozen 1, (hat5.set1 v').cell2, run_store_new _ m es clk hmb6 hall k _ hlook, ?_⟩
        have hext : Ext wc (setBlock (w5.setCell ⟨B p, 1, none⟩ v') m (.map (es.push { key := .string k, val := .pointer (some ⟨wc.heap.size, 0, none⟩), born := clk }) (clk + 1))) :=
          ⟨g2.os, g2.tape, g2.output, by rw [size_setBlock, hsz6]; omega⟩
        refine mix_step (w := wc) (own := own3) (m := m) (es := es) (clk := clk) (k := k) (c1 := d1) (xs := xs) (v' := v') (a := some ⟨bs, os, none⟩) (c := c) hI3 hB3 HP.out.1 HP.out.2 (by rw [HP.out.2]; exact hchn) h2 HSEG3.out hcm hmb hc1 hrow ?_ ?_ ?_ ?_ ?_ ?_ hext HO3.out
        · intro e0 e1 e2 e3 e4 hx
          have hx5 := hx.of_block (hblk _ hltc hd1B)
          exact (hx5.set1 v').of_block (heap_setBlock_other _ _ _ _ hmB.symm)
        · exact heap_setBlock_at _ _ _ (by rw [hsz6]; omega)
        · rw [heap_setBlock_other _ _ _ _ (by omega), Below.heap_setCell _ _ _ _ (by show wc.heap.size ≠ B p; omega)]
          exact hblkn
        · refine ownsRow_frame g1 (fun g hg => ?_)
          have hgm : g ≠ m := by
            rcases g3 g hg with h | h
            · exact fun e => hd1m (by rw [← e]; exact h)
            · omega
          have hgB : g ≠ B p := by
            rcases g3 g hg with h | h
            · exact fun e => hd1B (by rw [← e]; exact h)
            · omega
          rw [heap_setBlock_other _ _ _ _ hgm, Below.heap_setCell _ _ _ _ hgB]
        · intro g hg
          rcases g3 g hg with h | h
          · exact Or.inl h
          · exact Or.inr (by omega)
        · intro x hx hxm hxB hxd
          rw [heap_setBlock_other _ _ _ _ hxm, Below.heap_setCell _ _ _ _ hxB]
          exact hblk x hx hxd
      have hml2 : i.mixed.length ≤ 1073741824 := Nat.le_trans hml hcnt
      clear hm0 hm2 hI3 ho3 hmb hall hlook hel hog hat hown hom
      unfold emptyNode at hrow2
      go_wp2_with (at_builtin; refine wp_app_mix rfl _ _ rfl d1 i.mixed.length xs hrow2 ⟨wc.heap.size + 1, 0, none⟩ 1 (.slice (some ⟨bs, os, none⟩) ss.length c) (.pointer (some ⟨wc.heap.size, 0, none⟩)) rfl rfl ?_ ?_ rfl rfl hml2 ?_)
      · simp [World.cell?_alloc_at]
      · simp [World.cell?_alloc_at, Addr.add]
      intro v' w5 g1 g2 g3
      obtain ⟨f1, f2, f3, f4, f5⟩ := HREST.out v' w5 g1 g2 (by simpa using g3)
      have HF : Hid (ChildPost B0 w1 own B N cnt p ss (.returned (.pointer (some ⟨wc.heap.size, 0, none⟩))) (setBlock (w5.setCell ⟨B p, 1, none⟩ v') m (.map (es.push { key := .string k, val := .pointer (some ⟨wc.heap.size, 0, none⟩), born := clk }) (clk + 1)))) := f5
      obtain ⟨va, vn, vc, rfl⟩ : ∃ va vn vc, v' = .slice va vn vc := by
        rcases g1.2 with ⟨h, _⟩ | ⟨g, cap, _, h, _⟩
        · exact ⟨_, _, _, h⟩
        · exact ⟨_, _, _, h⟩
      clear f5 g1 g2 g3 hrow2 hrow
      go_wp2_with fail
      go_ret
      exact HF.out

/-- (*node).child, at every segment. -/
theorem child_any (B0 : Nat) (w : World) (own : Own) (B : List Key → Nat) (N : Trie) (cnt : Nat) (p : List Key) (i : NI) (hI : Inv B0 w own B N cnt) (hB0 : B0 ≤ w.heap.size) (hp : N p = some i) (a : Option Addr) (n c : Nat) (ss : List ByteArray)
    (hn : n = ss.length) (h1 : 1 ≤ ss.length) (hseg : SegOK w own a c ss) (hcnt : cnt ≤ 1073741824) :
    Calls Try.prog 35 #[.pointer (some ⟨B p, 0, none⟩), .slice a n c] w (ChildPost B0 w own B N cnt p ss) := by
  obtain ⟨bs, os, rfl, hbs, hc⟩ := hseg.1.row_at h1
  by_cases hpar : bls ss = [[], []]
  · exact child_param B0 w own B N cnt p i hI hB0 hp bs os n c ss hn hc hpar
  · by_cases hl : ss.length = 1
    · rw [hn, hl]
      exact child_lit B0 w own B N cnt p i hI hB0 hp bs os c ss hl hc hbs (hseg.2.2.2 _ rfl)
    · exact child_mixed B0 w own B N cnt p i hI hB0 hp bs os n c ss hn (by omega) hpar hc hbs hseg hcnt

/-- ZZChild. -/
theorem zzChild_any (B0 : Nat) (w : World) (own : Own) (B : List Key → Nat) (N : Trie) (cnt : Nat) (p : List Key) (i : NI) (hI : Inv B0 w own B N cnt) (hB0 : B0 ≤ w.heap.size) (hp : N p = some i) (a : Option Addr) (n c : Nat) (ss : List ByteArray)
    (hn : n = ss.length) (h1 : 1 ≤ ss.length) (hseg : SegOK w own a c ss) (hcnt : cnt ≤ 1073741824) :
    Calls Try.prog 23 #[.pointer (some ⟨B p, 0, none⟩), .slice a n c] w (ChildPost B0 w own B N cnt p ss) := by
  have hch := child_any B0 w own B N cnt p i hI hB0 hp a n c ss hn h1 hseg hcnt
  have HC : Hid (Calls Try.prog 35 #[.pointer (some ⟨B p, 0, none⟩), .slice a n c] w (ChildPost B0 w own B N cnt p ss)) := hch
  clear hch hn h1 hI hp
  go_enter Try.func23, Try.ntmps23
  go_wp2_with fail
  refine HC.out.mono ?_
  intro e w' hpost
  have HQ : Hid (ChildPost B0 w own B N cnt p ss e w') := hpost
  obtain ⟨own', B', rfl, _⟩ := hpost
  go_wp2_with fail
  go_ret
  exact HQ.out

/-- ZZSetRoute. -/
theorem setRoute_any (B0 : Nat) (w : World) (own : Own) (B : List Key → Nat) (N : Trie) (cnt : Nat) (p : List Key) (i : NI) (hI : Inv B0 w own B N cnt) (hB0 : B0 ≤ w.heap.size) (hp : N p = some i) (r : Nat) :
    Calls Try.prog 36 #[.pointer (some ⟨B p, 0, none⟩), .pointer (some ⟨r, 0, none⟩)] w fun e w' => e = .returned (.tuple #[]) ∧ Inv B0 w' own B (routeP N p r) cnt ∧ Out w own w' own := by
  have hst := route_step hI hB0 hp r
  obtain ⟨c0, c1, c2, hat, _⟩ := hI.node p i hp
  have hc4 := hat.cell4
  have hfr := hat.frozen 4
  have HS : Hid (Inv B0 (w.setCell ⟨B p, 4, none⟩ (.pointer (some ⟨r, 0, none⟩))) own B (routeP N p r) cnt ∧ Out w own (w.setCell ⟨B p, 4, none⟩ (.pointer (some ⟨r, 0, none⟩))) own) := hst
  clear hst hat hI hp
  go_enter Try.func36, Try.ntmps36
  go_wp2
  go_end0
  exact ⟨rfl, HS.out⟩

/-- The root, just made. -/
def rootN : Trie := fun q => if q = [] then some ⟨none, []⟩ else none
theorem root_inv (w : World) : Inv w.heap.size (w.alloc emptyNode) (put (fun _ => none) w.heap.size ([], 0)) (fun _ => w.heap.size) rootN 0 := by
  have hnew : NodeAt (w.alloc emptyNode) w.heap.size (.map none) (.slice none 0 0) (.map none) (.pointer none) (.pointer none) := heap_alloc_new w _
  refine ⟨?_, ?_, ?_, ?_, ?_, ?_⟩
  · intro p i hp
    unfold rootN at hp
    split at hp
    · rename_i e
      subst e
      cases hp
      have hf : (fun k => childBlk (fun _ => w.heap.size) rootN ([] ++ [k])) = fun _ => none := by funext k; simp [childBlk, rootN]
      rw [hf]
      exact ⟨.map none, .slice none 0 0, .map none, hnew, put_new _ _, Or.inl ⟨rfl, fun _ => rfl⟩, Or.inl ⟨rfl, fun _ => rfl⟩, [], World.ownsRow_nil _ _ _ _, by simp [Value.ownBlock], by simp⟩
    · cases hp
  · intro p i hp
    unfold rootN at hp
    split at hp
    · cases hp; simp
    · cases hp
  · intro b p hb
    by_cases e : b = w.heap.size
    · simp [e]
    · rw [put_old _ _ _ e] at hb; cases hb
  · intro b p hb
    by_cases e : b = w.heap.size
    · omega
    · rw [put_old _ _ _ e] at hb; cases hb
  · intro q k h
    exact absurd (by simp [rootN]) h
  · simp [rootN, fakeP]

/-- ZZNewNode. -/
theorem newNode_any (w : World) : Calls Try.prog 22 #[] w fun e w' => e = .returned (.pointer (some ⟨w.heap.size, 0, none⟩)) ∧ w' = w.alloc emptyNode := by
  unfold emptyNode
  go_enter Try.func22, Try.ntmps22
  go_wp2
  go_ret
  exact ⟨rfl, rfl⟩

end Go.Proofs.Qxb6001106a
