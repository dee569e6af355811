/-
  DERIVED, BY AN AI AGENT. Seat b6001106a: zzCloneTemplates (27); a block that the tree keeps and does not read.
-/
import Derived.Test.Qxb6001106aTpls
import Derived.Test.Qxb6001106aPref8
namespace Go.Proofs.Qxb6001106a
open Go.RowKit

def low (lo : Nat) : Own := fun x => if x < lo then some ([], 0) else none

theorem SegsAt.anyOwn {w : World} {own : Own} {a : Option Addr} {T : List (List ByteArray)} (h : SegsAt w own a T) : SegsAt w noOwn a T := by
  intro j hj
  obtain ⟨b, o, a', c, e, hb, _, hcell, hst, hc, _⟩ := h j hj
  exact ⟨b, o, a', c, e, hb, rfl, hcell, hst, hc, fun _ _ => rfl⟩

theorem SegsAt.freshOwn {w' : World} {own : Own} {lo : Nat} {a : Option Addr} {T : List (List ByteArray)} (h : SegsAt w' noOwn a T)
    (h1 : ∀ ad, a = some ad → lo ≤ ad.block) (h2 : ∀ j, j < T.length → ∃ b o a' c', a = some ⟨b, o, none⟩ ∧ w'.cell? ⟨b, o + j, none⟩ = some (.slice a' (T.getD j []).length c') ∧ ∀ ad, a' = some ad → lo ≤ ad.block)
    (ho : ∀ x, lo ≤ x → own x = none) : SegsAt w' own a T := by
  intro j hj
  obtain ⟨b, o, a', c, e, hb, _, hcell, hst, hc, _⟩ := h j hj
  obtain ⟨b2, o2, a2, c2, e2, hcell2, hf⟩ := h2 j hj
  rw [e] at e2; cases e2
  rw [hcell] at hcell2; cases hcell2
  exact ⟨b, o, a', c, e, hb, ho b (h1 _ e), hcell, hst, hc, fun ad hd => ho _ (hf ad hd)⟩

theorem StrsAt.setCell_ne {w : World} {a : Option Addr} {ss : List ByteArray} {b : Nat} (h : StrsAt w a ss) (hb : ∀ ad, a = some ad → ad.block ≠ b) (k : Nat) (v : Value) : StrsAt (w.setCell ⟨b, k, none⟩ v) a ss := by
  intro i hi
  obtain ⟨b1, o1, e1, h1, h2⟩ := h i hi
  refine ⟨b1, o1, e1, by simpa [World.setCell] using h1, ?_⟩
  rw [World.cell?_of_block (w := w) (Below.heap_setCell _ _ _ _ (by show b1 ≠ b; exact hb _ e1))]
  exact h2

theorem SegsAt.setCell_low {w : World} {b : Nat} {a : Option Addr} {T : List (List ByteArray)} (h : SegsAt w (low (b + 1)) a T) (k : Nat) (v : Value) : SegsAt (w.setCell ⟨b, k, none⟩ v) (low (b + 1)) a T := by
  have hn : ∀ x, low (b + 1) x = none → x ≠ b := fun x hx e => by subst e; simp [low] at hx
  intro j hj
  obtain ⟨b1, o1, a', c, e, hb, hob, hcell, hst, hc, ho⟩ := h j hj
  refine ⟨b1, o1, a', c, e, by simpa [World.setCell] using hb, hob, ?_, hst.setCell_ne (fun ad hd => hn _ (ho ad hd)) k v, hc, ho⟩
  rw [World.cell?_of_block (w := w) (Below.heap_setCell _ _ _ _ (by show b1 ≠ b; exact hn _ hob))]
  exact hcell

theorem Try.info29 : (Try.prog.info? 29).map (fun i => (i.zero, i.size, i.bytes)) = some (some (.slice none 0 0), 1, 24) := by kernel_rfl
theorem Try.info42 : (Try.prog.info? 42).map (fun i => (i.zero, i.size, i.bytes)) = some (some (.pointer none), 1, 8) := by kernel_rfl

/-- zzCloneTemplates. -/
def ClonedTpls (w : World) (Ts : List (List (List ByteArray))) (e : Ending) (w' : World) : Prop :=
  ∃ a c, e = .returned (.slice a Ts.length c) ∧ TplsAt w' noOwn a Ts ∧ Below w.heap.size w w'

set_option maxHeartbeats 400000 in
theorem cloneTpls_any (own : Own) (a : Option Addr) (n c : Nat) (Ts : List (List (List ByteArray))) (w : World) (hn : n = Ts.length) (hlen : Ts.length ≤ 1048576) (hz : ∀ j, j < Ts.length → TOk (Ts.getD j [])) (hT : TplsAt w own a Ts) :
    Calls Try.prog 27 #[.slice a n c] w (ClonedTpls w Ts) := by
  subst hn
  have hmk := run_make_row' (P := Try.prog) 37 29 (.slice none 0 0) 24 Try.underlying37 Try.info29 rfl .i64 .i64 Ts.length (by omega) (by omega)
  have hnil := fun (w : World) (x : Option Addr) (n c : Nat) => Lib.run_eql_slice_nil (P := Try.prog) w 37 29 x n c 0 0 Try.underlying37
  match a with
  | none =>
    have h0 : Ts = [] := by
      cases Ts with
      | nil => rfl
      | cons x r => obtain ⟨b, o, _, _, e, _⟩ := hT 0 (by simp); cases e
    subst h0
    go_enter Try.func27, Try.ntmps27
    go_wp2
    go_ret
    exact ⟨_, _, rfl, fun j hj => absurd hj (Nat.not_lt_zero _), Below.refl _ _⟩
  | some ad =>
    go_enter Try.func27, Try.ntmps27
    go_wp2
    go_loopg [4] (Ts.length) (fun g i wr => ∃ k : Nat, k ≤ Ts.length ∧ g = Ts.length - k ∧ i = .int .i64 k ∧ Below w.heap.size w wr ∧ ∃ V : Nat → Value,
      wr.rowIs w.heap.size 29 Ts.length (fun j => if j < k then V j else .slice none 0 0) ∧ Hid (∀ j, j < k → ∃ a' c', V j = .slice a' (Ts.getD j []).length c' ∧ SegsAt wr (low (w.heap.size + 1)) a' (Ts.getD j []) ∧ (Ts.getD j []).length ≤ c'))
    case atStart => exact ⟨0, Nat.zero_le _, by omega, rfl, (Below.refl _ _).alloc (Nat.le_refl _) _, fun _ => .slice none 0 0, (World.rowIs_made _ _ _ _).congr (fun i _ => by simp), fun j hj => absurd hj (Nat.not_lt_zero _)⟩
    case round =>
      obtain ⟨k, hk, rfl, rfl, hb, V, hrow, HV⟩ := hrel
      by_cases hlt : k < Ts.length
      · obtain ⟨b, o, a', c', hao, hbl, _, hcell, hst, hc'⟩ := hT k hlt
        cases hao
        have hcell' : wr.cell? ⟨b, o + k, none⟩ = some (.slice a' (Ts.getD k []).length c') := by rw [hb.cell (p := ⟨b, o + k, none⟩) hbl]; exact hcell
        have hst' := hst.later hb
        have hzk := hz k hlt
        obtain ⟨sk, HSK⟩ : ∃ sk, Hid (Ts.getD k [] = sk) := ⟨_, hid_of rfl⟩
        rw [HSK.out] at hcell' hst' hzk
        clear hst hcell
        go_wp2_with fail
        refine (cloneSegs_any own a' _ c' sk wr rfl hzk.1 hzk.2 hst').mono ?_
        intro e w2 hpost
        obtain ⟨a2, c2, rfl, hs2, hc2, hb2, hf2, hf3⟩ := hpost
        have hbs : w.heap.size < wr.heap.size := hrow.lt
        have hs3 : SegsAt w2 (low (w.heap.size + 1)) a2 sk := hs2.freshOwn hf2 hf3 (fun x hx => by simp [low]; omega)
        have HS3 := hid_of hs3
        have HB2 := hid_of hb2
        have hrow2 := hrow.of_block (hb2.block _ hbs)
        have hfr := hrow2.frozen k
        have hck := hrow2.cell hlt
        have hb2' : Below w.heap.size w w2 := hb.trans (hb2.mono (by omega))
        clear hs2 hs3 hf2 hf3 hb2
        go_wp2_with fail
        go_roundg (Ts.length - (k + 1))
        case measure => omega
        case rel =>
          refine ⟨k + 1, by omega, rfl, by go_num, hb2'.setCell (Nat.le_refl _) _, fun j => if j = k then .slice a2 sk.length c2 else V j, (hrow2.set k _).congr (fun i _ => ?_), ?_⟩
          · by_cases e : i = k
            · subst e; simp
            · by_cases e2 : i < k
              · rw [if_neg e, if_pos e2, if_pos (by omega)]; simp [e]
              · rw [if_neg e, if_neg e2, if_neg (by omega)]
          · intro j hj
            by_cases e : j = k
            · subst e
              rw [HSK.out]
              exact ⟨a2, c2, by simp, HS3.out.setCell_low _ _, hc2⟩
            · obtain ⟨a3, c3, g1, g2, g3⟩ := HV.out j (by omega)
              exact ⟨a3, c3, by simp only [if_neg e]; exact g1, (g2.later HB2.out).setCell_low _ _, g3⟩
      · go_wp2_with fail
        go_ret
        refine ⟨_, _, rfl, ?_, hb⟩
        intro j hj
        obtain ⟨a3, c3, g1, g2, g3⟩ := HV.out j (by omega)
        refine ⟨w.heap.size, 0, a3, c3, rfl, hrow.lt, rfl, ?_, g2.anyOwn, g3⟩
        rw [Nat.zero_add, hrow.cell hj, if_pos (by omega), g1]

/-- A store into a block that no node owns and no node reads. -/
theorem Inv.keep {B0 : Nat} {w : World} {own : Own} {B : List Key → Nat} {N : Trie} {cnt : Nat} (h : Inv B0 w own B N cnt) {b : Nat} (hb : own b = some (fakeP, 9)) (k : Nat) (v : Value) : Inv B0 (w.setCell ⟨b, k, none⟩ v) own B N cnt := by
  have hblk : ∀ x, x ≠ b → (w.setCell ⟨b, k, none⟩ v).heap[x]? = w.heap[x]? := fun x hx => Below.heap_setCell _ _ _ _ hx
  have hsz : (w.setCell ⟨b, k, none⟩ v).heap.size = w.heap.size := by simp [World.setCell]
  refine ⟨?_, h.count, fun x p hx => by rw [hsz]; exact h.lt x p hx, h.ge, h.closed, h.nofake⟩
  intro p i hp
  obtain ⟨c0, c1, c2, h1, h2, h3, h4, xs, m1, m2, m3⟩ := h.node p i hp
  have hne : ∀ x t, own x = some (p, t) → x ≠ b := fun x t hx e => by
    subst e; rw [hb] at hx
    exact h.ne_fake hp (Prod.mk.inj (Option.some.inj hx)).1.symm
  refine ⟨c0, c1, c2, by unfold NodeAt; rw [hblk _ (hne _ _ h2)]; exact h1, h2, h3.frame (fun x hx => hblk x (hne x _ hx)) (fun _ hx => hx), h4.frame (fun x hx => hblk x (hne x _ hx)) (fun _ hx => hx), xs, ownsRow_frame m1 (fun g hg => hblk g (hne g _ (m2 g hg))), m2, fun j s hj => ?_⟩
  obtain ⟨a, c, b2, g1, g2, g3, ⟨s1, s2, s3, s4⟩, g5⟩ := m3 j s hj
  exact ⟨a, c, b2, g1, g2, g3, ⟨s1.setCell_ne (fun ad hd e => by have := s4 ad hd; rw [e, hb] at this; cases this) k v, s2, s3, s4⟩, g5⟩

/-- A new block, kept beside the tree. -/
theorem Inv.beside {B0 : Nat} {w : World} {own : Own} {B : List Key → Nat} {N : Trie} {cnt : Nat} (h : Inv B0 w own B N cnt) (hB : B0 ≤ w.heap.size) (o : Obj) : Inv B0 (w.alloc o) (put own w.heap.size (fakeP, 9)) B N cnt := by
  have hb : Below w.heap.size w (w.alloc o) := (Below.refl _ _).alloc (Nat.le_refl _) _
  have hI := h.later hb
  have hpo : ∀ x q, own x = some q → put own w.heap.size (fakeP, 9) x = some q := fun x q hx => by
    rw [put_old _ _ _ (by have := h.lt x q hx; omega)]; exact hx
  refine ⟨?_, h.count, ?_, ?_, h.closed, h.nofake⟩
  · intro p i hp
    obtain ⟨c0, c1, c2, h1, h2, h3, h4, xs, m1, m2, m3⟩ := h.node p i hp
    refine ⟨c0, c1, c2, by unfold NodeAt; rw [hb.block _ (h.lt _ _ h2)]; exact h1, hpo _ _ h2, h3.frame (fun x hx => hb.block x (h.lt x _ hx)) (fun x hx => hpo x _ hx), h4.frame (fun x hx => hb.block x (h.lt x _ hx)) (fun x hx => hpo x _ hx), xs, ownsRow_frame m1 (fun g hg => hb.block g (h.lt g _ (m2 g hg))), fun g hg => hpo g _ (m2 g hg), fun j s hj => ?_⟩
    obtain ⟨a, c, b2, g1, g2, g3, ⟨s1, s2, s3, s4⟩, g5⟩ := m3 j s hj
    refine ⟨a, c, b2, g1, g2, g3, ⟨s1.later hb, s2, s3, fun ad hd => ?_⟩, g5⟩
    obtain ⟨b3, o3, e3, hlt, _⟩ := s1 0 (by omega)
    have := s4 ad hd
    rw [hd] at e3; cases e3
    rw [put_old _ _ _ (Nat.ne_of_lt hlt)]; exact this
  · intro x q hx
    by_cases e : x = w.heap.size
    · subst e; simp
    · rw [put_old _ _ _ e] at hx
      exact Nat.lt_of_lt_of_le (h.lt x q hx) hb.size
  · intro x q hx
    by_cases e : x = w.heap.size
    · subst e; exact hB
    · rw [put_old _ _ _ e] at hx
      exact h.ge x q hx

theorem Inv.own_new {B0 : Nat} {w : World} {own : Own} {B : List Key → Nat} {N : Trie} {cnt : Nat} (h : Inv B0 w own B N cnt) (x : Nat) (hx : w.heap.size ≤ x) : own x = none := by
  cases e : own x with
  | none => rfl
  | some p => have := h.lt x p e; omega

theorem Inv.own_low {B0 : Nat} {w : World} {own : Own} {B : List Key → Nat} {N : Trie} {cnt : Nat} (h : Inv B0 w own B N cnt) (x : Nat) (hx : x < B0) : own x = none := by
  cases e : own x with
  | none => rfl
  | some p => have := h.ge x p e; omega

theorem segCount_take (Ts : List (List (List ByteArray))) (k : Nat) : segCount (Ts.take k) ≤ segCount Ts := by
  have : segCount Ts = segCount (Ts.take k) + segCount (Ts.drop k) := by
    conv => lhs; rw [← List.take_append_drop k Ts]
    unfold segCount
    rw [List.map_append, List.sum_append]
  omega

theorem neq_same42 (w : World) (a : Addr) : (binOp .neq 42 (.pointer (some a)) (.pointer (some a))).run Try.prog w = .ok (.bool false) w := by
  have h0 : (Try.prog.info? 46).isSome = true := by kernel_rfl
  obtain ⟨j, hj⟩ := Option.isSome_iff_exists.1 h0
  have h : ∀ d : Nat, (Op.equalIn (d + 1) 42 (.pointer (some a)) (.pointer (some a))).run Try.prog w = .ok true w := fun d => by
    simp [Op.equalIn, run_underlying Try.underlying42, sizeOf, typeInfo, hj, run_sameAddr_same]
  simp only [binOp]
  simp [Op.equal, Op.maxDepth, h 9999]

end Go.Proofs.Qxb6001106a
