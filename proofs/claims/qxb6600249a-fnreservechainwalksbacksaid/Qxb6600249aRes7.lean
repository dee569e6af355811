/-
  DERIVED, BY AN AI AGENT. Seat b6600249a: ownEntryIs_b1 (30).
-/
import Derived.Test.Qxb6600249aRes6
namespace Go.Proofs.Qxb6600249a
open Go.RowKit

theorem bl_text (t : ByteArray) : (⟨(bl t).toArray⟩ : ByteArray) = t := by
  obtain ⟨l⟩ := t
  simp [bl]

theorem own_fault (w : World) (b : Nat) (par : Option Addr) (name text : ByteArray) (h : ScopeFault w b par name) : Calls Try.prog 30 #[.pointer (some ⟨b, 0, none⟩), .string name, .string text, .bool true] w (AnsK true w) := by
  have H := hid_of h
  clear h
  go_enter Try.func30, Try.ntmps30
  go_wp2_with fail
  refine (counts_fault w b par name H.out).mono ?_
  rintro e w1 ⟨rfl, hb1⟩
  have HB1 := hid_of hb1
  have H1 : Hid (ScopeFault w1 b par name) := H.out.later hb1
  clear hb1 H
  obtain ⟨m, h1, h2⟩ := H1.out
  have HS1 := hid_of h1
  clear h1 h2
  go_wp2_with fail
  refine (ownValue_fault w1 b par _ name HS1.out).mono ?_
  rintro e w2 ⟨rfl, hb2⟩
  have HB2 : Hid (Below w.heap.size w w2) := HB1.out.trans (hb2.mono HB1.out.size)
  have HB3 : ∀ o, Hid (Below w2.heap.size w2 (w2.alloc o)) := fun o => (Below.refl _ _).alloc (Nat.le_refl _) _
  have H3 : ∀ o, Hid (ScopeFault (w2.alloc o) b par name) := fun o => (H1.out.later hb2).later (HB3 o).out
  clear hb2 HB1 HS1 H1
  go_wp2_with fail
  obtain ⟨m', h1, h2⟩ := (H3 (.cells #[.pointer none] 32)).out
  refine (ownFaulty_fault _ b m' par _ name h1 h2).mono ?_
  rintro e w4 ⟨rfl, hb4⟩
  have HB4 : Hid (Below w.heap.size w w4) := (HB2.out.trans ((HB3 _).out.mono HB2.out.size)).trans (hb4.mono (Nat.le_trans HB2.out.size (HB3 _).out.size))
  clear h1 h2 hb4 H3
  go_wp2_with fail
  go_ret
  exact AnsK.mk rfl HB4.out

/-- What stands on the way: the box B that holds the value nb; its node; the scope. -/
structure OE (w0 : World) (b B nb : Nat) (par : Option Addr) (name text : ByteArray) (w : World) : Prop where
  bel : Below w0.heap.size w0 w
  box : w.heap[B]? = some (.cells #[.pointer (some ⟨nb, 0, none⟩)] 32 (0, 0))
  sc : ∃ m, w.heap[b]? = some (.cells #[.pointer par, .map (some m), .map none, .bool false] 70 (0, 0))
  node : NodeIs w nb name text

theorem OE.later {w0 w w' : World} {b B nb : Nat} {par : Option Addr} {name text : ByteArray} (h : OE w0 b B nb par name text w) (hb : Below w.heap.size w w') : OE w0 b B nb par name text w' := by
  obtain ⟨m, h1⟩ := h.sc
  exact ⟨h.bel.trans (hb.mono h.bel.size), old_block h.box hb, ⟨m, old_block h1 hb⟩, h.node.later hb⟩

theorem OE.cell {w0 w : World} {b B nb : Nat} {par : Option Addr} {name text : ByteArray} (h : OE w0 b B nb par name text w) : w.cell? ⟨B, 0, none⟩ = some (.pointer (some ⟨nb, 0, none⟩)) := cell_at h.box rfl

theorem NodeIs.nat {w : World} {nb : Nat} {name text : ByteArray} (h : NodeIs w nb name text) : NAt w noG nb (bl text) 1 := by
  obtain ⟨fb, h1, _⟩ := h
  exact .leaf nb text _ _ _ h1 (fun e => e)

set_option maxHeartbeats 1000000 in
theorem own_val (w : World) (b : Nat) (par : Option Addr) (name text : ByteArray) (h : ScopeVal w b par name text) (ht : text.size ≤ 1048576) : Calls Try.prog 30 #[.pointer (some ⟨b, 0, none⟩), .string name, .string text, .bool false] w (AnsK true w) := by
  have H := hid_of h
  clear h
  go_enter Try.func30, Try.ntmps30
  go_wp2_with fail
  refine (counts_val w b par name text H.out).mono ?_
  rintro e w1 ⟨rfl, hb1⟩
  have HB1 := hid_of hb1
  obtain ⟨m, nb, h1, h2, h3⟩ := H.out.later hb1
  have HS1 := hid_of h1
  have HM1 := hid_of h2
  have HN1 := hid_of h3
  clear hb1 H h1 h2 h3
  go_wp2_with fail
  refine (ownValue_val w1 b m nb par _ name HS1.out HM1.out).mono ?_
  rintro e w2 ⟨rfl, hb2⟩
  have HO : Hid (OE w b w2.heap.size nb par name text (w2.alloc (.cells #[.pointer (some ⟨nb, 0, none⟩)] 32))) := by
    have hB2 : Below w.heap.size w w2 := HB1.out.trans (hb2.mono HB1.out.size)
    have hA : Below w2.heap.size w2 (w2.alloc (.cells #[.pointer (some ⟨nb, 0, none⟩)] 32)) := (Below.refl _ _).alloc (Nat.le_refl _) _
    exact ⟨hB2.trans (hA.mono hB2.size), heap_alloc_new w2 _, ⟨m, old_block (old_block HS1.out hb2) hA⟩, (HN1.out.later hb2).later hA⟩
  obtain ⟨B, HBE⟩ : ∃ B, Hid (B = w2.heap.size) := ⟨_, hid_of rfl⟩
  clear hb2 HB1 HS1 HM1 HN1
  go_wp2_with fail
  obtain ⟨m', h1⟩ := HO.out.sc
  refine (ownFaulty_val _ b par _ name h1).mono ?_
  rintro e w4 ⟨rfl, hb4⟩
  have HO4 := hid_of (HO.out.later hb4)
  have hc4 := HO4.out.cell
  clear h1 hb4 HO
  rw [← HBE.out] at HO4 hc4 ⊢
  clear HBE
  go_wp2_with fail
  refine (isZero_any w4 nb).mono ?_
  rintro e w5 ⟨rfl, hb5⟩
  have HO5 := hid_of (HO4.out.later hb5)
  have hc5 := HO5.out.cell
  clear hb5 HO4 hc4
  go_wp2_with fail
  refine (string_any w5 nb (bl text) 1 HO5.out.node.nat (by rw [bl_length]; omega) (by omega)).mono ?_
  rintro e w6 ⟨rfl, hb6⟩
  rw [bl_text]
  have HO6 := hid_of (HO5.out.later hb6)
  have hc6 := HO6.out.cell
  clear hb6 HO5 hc5
  go_wp2_with fail
  obtain ⟨fb, h1, h2⟩ := HO6.out.node
  have HH1 := hid_of h1
  clear h1 h2
  refine (zzFrom_any w6 nb fb _ _ _ _ HH1.out).mono ?_
  rintro e w7 ⟨rfl, hb7⟩
  have HO7 := hid_of (HO6.out.later hb7)
  have hc7 := HO7.out.cell
  have hfn : w7.cell? ⟨fb, 0, none⟩ = some (.string name) := by
    obtain ⟨fb', h1, h2⟩ := HO7.out.node
    have h3 := old_block HH1.out hb7
    rw [h1] at h3
    cases h3
    exact cell_at h2 rfl
  clear hb7 HO6 hc6 HH1
  go_wp2_with fail
  obtain ⟨fb', h1, -⟩ := HO7.out.node
  refine (sizeNul_any w7 nb _ _ _ text.size (nul text) h1).mono ?_
  rintro e w8 ⟨rfl, hb8⟩
  have HO8 := hid_of (HO7.out.later hb8)
  clear h1 hb8 HO7 hc7 hfn
  go_wp2_with fail
  refine (hasNul_any text w8 ht).mono ?_
  rintro e w9 ⟨rfl, rfl⟩
  go_wp2_with fail
  go_ret
  exact AnsK.mk rfl HO8.out.bel

theorem own_any (w : World) (b : Nat) (par : Option Addr) (name text : ByteArray) (f : Bool) (h : ScopeAt w b par name text f) (ht : text.size ≤ 1048576) : Calls Try.prog 30 #[.pointer (some ⟨b, 0, none⟩), .string name, .string text, .bool f] w (AnsK true w) := by
  cases f with
  | true => exact own_fault w b par name text h
  | false => exact own_val w b par name text h ht

end Go.Proofs.Qxb6600249a
