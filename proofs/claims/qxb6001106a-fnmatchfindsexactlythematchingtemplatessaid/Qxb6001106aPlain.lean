/-
  DERIVED, BY AN AI AGENT. Seat b6001106a: THE PLAIN MATHEMATICS: what 'matches' and 'overlaps' compute, over lists of bytes. No Go in sight.
-/
import Derived.Lib.Strings
import Derived.Lib.IndexMore
namespace Go.Proofs.Qxb6001106a

/-- The loop of 'matches' over the inner texts: what is left of the text, if each is found. -/
def midsFrom : List (List UInt8) → List UInt8 → Option (List UInt8)
  | [], t => some t
  | l :: r, t => if t = [] then none else if Lib.index (t.drop 1) l < 0 then none else midsFrom r (t.drop (1 + (Lib.index (t.drop 1) l).toNat + l.length))

def firstOf (s : List (List UInt8)) : List UInt8 := s.headD []
def lastOf (s : List (List UInt8)) : List UInt8 := s.getLastD []
def innerOf (s : List (List UInt8)) : List (List UInt8) := (s.drop 1).take (s.length - 2)

/-- The end of 'matches'. -/
def endB (last : List UInt8) : Option (List UInt8) → Bool
  | none => false
  | some t => decide (last.length < t.length) && Lib.hasSuffix t last

/-- (segment).matches, for a segment of two texts or more. -/
def matchesP (s : List (List UInt8)) (t : List UInt8) : Bool :=
  Lib.hasPrefix t (firstOf s) && endB (lastOf s) (midsFrom (innerOf s) (t.drop (firstOf s).length))

/-- zzSegMatches. -/
def segMatchesP (s : List (List UInt8)) (t : List UInt8) : Bool := if s.length = 1 then decide (t = firstOf s) else matchesP s t

/-- (segment).overlaps. -/
def overlapsP (s o : List (List UInt8)) : Bool :=
  if s.length = 1 ∧ o.length = 1 then decide (firstOf s = firstOf o)
  else if o.length = 1 then matchesP s (firstOf o)
  else if s.length = 1 then matchesP o (firstOf s)
  else (Lib.hasPrefix (firstOf s) (firstOf o) || Lib.hasPrefix (firstOf o) (firstOf s)) && (Lib.hasSuffix (lastOf s) (lastOf o) || Lib.hasSuffix (lastOf o) (lastOf s))

/-! ### The shortest choice is the best -/

def Dec : List (List UInt8) → List UInt8 → List UInt8 → Prop
  | [], last, t => ∃ p, p ≠ [] ∧ t = p ++ last
  | l :: r, last, t => ∃ p u, p ≠ [] ∧ t = p ++ (l ++ u) ∧ Dec r last u

theorem Dec.longer {ls : List (List UInt8)} {last u : List UInt8} (h : Dec ls last u) (q : List UInt8) : Dec ls last (q ++ u) := by
  cases ls with
  | nil =>
    obtain ⟨p, hp, rfl⟩ := h
    exact ⟨q ++ p, by simp [hp], by simp⟩
  | cons l r =>
    obtain ⟨p, v, hp, rfl, hv⟩ := h
    exact ⟨q ++ p, v, by simp [hp], by simp, hv⟩

theorem Dec.suffix {ls : List (List UInt8)} {last u t : List UInt8} (h : Dec ls last u) (hs : u <:+ t) : Dec ls last t := by
  obtain ⟨q, rfl⟩ := hs
  exact h.longer q

theorem index_of_occ {s sub : List UInt8} {j : Nat} (hj : j ≤ s.length) (h : Lib.occAt s sub j = true) : ∃ i : Nat, Lib.index s sub = i ∧ i ≤ j ∧ Lib.occAt s sub i = true := by
  rcases Lib.index_spec s sub with ⟨_, h2⟩ | ⟨i, h1, _, h3, h4⟩
  · rw [h2 j hj] at h; cases h
  · refine ⟨i, h1, ?_, h3⟩
    refine Nat.le_of_not_lt fun hlt => ?_
    have := h4 j hlt
    rw [this] at h; cases h

theorem mids_of_dec : ∀ (ls : List (List UInt8)) (last t : List UInt8), Dec ls last t → endB last (midsFrom ls t) = true
  | [], last, t, h => by
    obtain ⟨p, hp, rfl⟩ := h
    have : 0 < p.length := List.length_pos_iff.2 hp
    simp only [midsFrom, endB, Lib.hasSuffix, Bool.and_eq_true, decide_eq_true_eq]
    exact ⟨by rw [List.length_append]; omega, List.isSuffixOf_iff_suffix.2 (List.suffix_append _ _)⟩
  | l :: r, last, t, h => by
    obtain ⟨p, u, hp, rfl, hu⟩ := h
    obtain ⟨x, p', rfl⟩ : ∃ x p', p = x :: p' := by
      cases p with
      | nil => exact absurd rfl hp
      | cons x p' => exact ⟨x, p', rfl⟩
    have hocc : Lib.occAt (p' ++ (l ++ u)) l p'.length = true := by simp [Lib.occAt]
    obtain ⟨i, hi, hle, _⟩ := index_of_occ (s := p' ++ (l ++ u)) (by simp) hocc
    have e : ((x :: p') ++ (l ++ u)).drop 1 = p' ++ (l ++ u) := by simp
    have hne : (x :: p') ++ (l ++ u) ≠ [] := by simp
    rw [midsFrom, if_neg hne, e, hi, if_neg (by omega)]
    refine mids_of_dec r last _ (hu.suffix ?_)
    have e2 : ((x :: p') ++ (l ++ u)).drop ((x :: p').length + l.length) = u := by
      rw [List.drop_append, List.drop_append]
      simp
    have e3 : (x :: p').length + l.length = (1 + (i : Int).toNat + l.length) + (p'.length - i) := by simp; omega
    rw [e3, ← List.drop_drop] at e2
    generalize List.drop (1 + (i : Int).toNat + l.length) ((x :: p') ++ (l ++ u)) = v at e2 ⊢
    rw [← e2]
    exact List.drop_suffix _ _

theorem mids_suffix : ∀ (ls : List (List UInt8)) (t t' : List UInt8), midsFrom ls t = some t' → t' <:+ t
  | [], t, t', h => by simp only [midsFrom, Option.some.injEq] at h; rw [h]; exact List.suffix_refl _
  | l :: r, t, t', h => by
    rw [midsFrom] at h
    split at h
    · cases h
    · split at h
      · cases h
      · exact (mids_suffix r _ _ h).trans (List.drop_suffix _ _)

theorem matchesP_prefix {s : List (List UInt8)} {t : List UInt8} (h : matchesP s t = true) : firstOf s <+: t := by
  simp only [matchesP, Bool.and_eq_true] at h
  exact List.isPrefixOf_iff_prefix.1 h.1

theorem matchesP_suffix {s : List (List UInt8)} {t : List UInt8} (h : matchesP s t = true) : lastOf s <:+ t := by
  simp only [matchesP, Bool.and_eq_true] at h
  obtain ⟨_, h⟩ := h
  cases e : midsFrom (innerOf s) (t.drop (firstOf s).length) with
  | none => rw [e] at h; cases h
  | some t' =>
    rw [e] at h
    simp only [endB, Bool.and_eq_true] at h
    exact (List.isSuffixOf_iff_suffix.1 h.2).trans ((mids_suffix _ _ _ e).trans (List.drop_suffix _ _))

theorem compat_prefix {a b t : List UInt8} (h1 : a <+: t) (h2 : b <+: t) : (Lib.hasPrefix a b || Lib.hasPrefix b a) = true := by
  simp only [Lib.hasPrefix, Bool.or_eq_true, List.isPrefixOf_iff_prefix]
  rcases Nat.le_total a.length b.length with h | h
  · exact Or.inr (List.prefix_of_prefix_length_le h1 h2 h)
  · exact Or.inl (List.prefix_of_prefix_length_le h2 h1 h)

theorem compat_suffix {a b t : List UInt8} (h1 : a <:+ t) (h2 : b <:+ t) : (Lib.hasSuffix a b || Lib.hasSuffix b a) = true := by
  simp only [Lib.hasSuffix, Bool.or_eq_true, List.isSuffixOf_iff_suffix]
  rcases Nat.le_total a.length b.length with h | h
  · exact Or.inr (List.suffix_of_suffix_length_le h1 h2 h)
  · exact Or.inl (List.suffix_of_suffix_length_le h2 h1 h)

/-- FnOverlapsSound's law. -/
theorem overlaps_sound {s o : List (List UInt8)} {t : List UInt8} (h1 : segMatchesP s t = true) (h2 : segMatchesP o t = true) : overlapsP s o = true := by
  unfold segMatchesP at h1 h2
  unfold overlapsP
  by_cases hs : s.length = 1 <;> by_cases ho : o.length = 1 <;> simp only [hs, ho, if_true, if_false, decide_eq_true_eq, and_true, and_false] at h1 h2 ⊢
  · rw [← h1, ← h2]
  · rw [← h1]; exact h2
  · rw [← h2]; exact h1
  · rw [Bool.and_eq_true]
    exact ⟨compat_prefix (matchesP_prefix h1) (matchesP_prefix h2), compat_suffix (matchesP_suffix h1) (matchesP_suffix h2)⟩

/-! ### The built text -/

/-- Each text set off by one byte. -/
def setOff (ls : List (List UInt8)) : List UInt8 := (ls.map fun l => (120 : UInt8) :: l).flatten

def longer (a b : List UInt8) : List UInt8 := if a.length < b.length then b else a

def witness (s o : List (List UInt8)) : List UInt8 :=
  longer (firstOf s) (firstOf o) ++ setOff (innerOf s) ++ setOff (innerOf o) ++ (120 :: longer (lastOf s) (lastOf o))

theorem dec_setOff : ∀ (ls : List (List UInt8)) (q z last : List UInt8), z ≠ [] → Dec ls last (q ++ (setOff ls ++ (z ++ last)))
  | [], q, z, last, hz => ⟨q ++ z, by simp [hz], by simp [setOff]⟩
  | l :: r, q, z, last, hz => ⟨q ++ [120], setOff r ++ (z ++ last), by simp, by simp [setOff], by simpa using dec_setOff r [] z last hz⟩

theorem longer_prefix {a b : List UInt8} (h : (Lib.hasPrefix a b || Lib.hasPrefix b a) = true) : a <+: longer a b ∧ b <+: longer a b := by
  simp only [Lib.hasPrefix, Bool.or_eq_true, List.isPrefixOf_iff_prefix] at h
  unfold longer
  split
  · rename_i hl
    rcases h with h | h
    · have := h.length_le; omega
    · exact ⟨h, List.prefix_refl _⟩
  · rename_i hl
    rcases h with h | h
    · exact ⟨List.prefix_refl _, h⟩
    · have := h.eq_of_length (by have := h.length_le; omega)
      rw [this]; exact ⟨List.prefix_refl _, List.prefix_refl _⟩

theorem longer_suffix {a b : List UInt8} (h : (Lib.hasSuffix a b || Lib.hasSuffix b a) = true) : a <:+ longer a b ∧ b <:+ longer a b := by
  simp only [Lib.hasSuffix, Bool.or_eq_true, List.isSuffixOf_iff_suffix] at h
  unfold longer
  split
  · rename_i hl
    rcases h with h | h
    · have := h.length_le; omega
    · exact ⟨h, List.suffix_refl _⟩
  · rename_i hl
    rcases h with h | h
    · exact ⟨List.suffix_refl _, h⟩
    · have := h.eq_of_length (by have := h.length_le; omega)
      rw [this]; exact ⟨List.suffix_refl _, List.suffix_refl _⟩

theorem matchesP_of {s : List (List UInt8)} {q z f : List UInt8} (hz : z ≠ []) (hf : f = firstOf s ++ q) : matchesP s (f ++ (setOff (innerOf s) ++ (z ++ lastOf s))) = true := by
  subst hf
  simp only [matchesP, Bool.and_eq_true]
  refine ⟨by simp [Lib.hasPrefix], ?_⟩
  have e : (firstOf s ++ q ++ (setOff (innerOf s) ++ (z ++ lastOf s))).drop (firstOf s).length = q ++ (setOff (innerOf s) ++ (z ++ lastOf s)) := by simp
  rw [e]
  exact mids_of_dec _ _ _ (dec_setOff _ _ _ _ hz)

/-- FnOverlapsExactByWitness's law. -/
theorem overlaps_exact {s o : List (List UInt8)} (hs : 2 ≤ s.length) (ho : 2 ≤ o.length) :
    overlapsP s o = (matchesP s (witness s o) && matchesP o (witness s o)) := by
  have hov : overlapsP s o = ((Lib.hasPrefix (firstOf s) (firstOf o) || Lib.hasPrefix (firstOf o) (firstOf s)) && (Lib.hasSuffix (lastOf s) (lastOf o) || Lib.hasSuffix (lastOf o) (lastOf s))) := by
    unfold overlapsP
    rw [if_neg (by omega), if_neg (by omega), if_neg (by omega)]
  rw [hov, Bool.eq_iff_iff, Bool.and_eq_true, Bool.and_eq_true]
  constructor
  · rintro ⟨h1, h2⟩
    obtain ⟨⟨q1, e1⟩, ⟨q2, e2⟩⟩ := longer_prefix h1
    obtain ⟨⟨z1, f1⟩, ⟨z2, f2⟩⟩ := longer_suffix h2
    constructor
    · have := matchesP_of (s := s) (q := q1) (z := setOff (innerOf o) ++ (120 :: z1)) (f := longer (firstOf s) (firstOf o)) (by simp) e1.symm
      rw [← this]
      congr 1
      unfold witness
      rw [← f1]
      simp
    · have := matchesP_of (s := o) (q := q2 ++ setOff (innerOf s)) (z := 120 :: z2) (f := longer (firstOf s) (firstOf o) ++ setOff (innerOf s)) (by simp) (by rw [← e2]; simp)
      rw [← this]
      congr 1
      unfold witness
      rw [← f2]
      simp
  · rintro ⟨h1, h2⟩
    exact ⟨compat_prefix (matchesP_prefix h1) (matchesP_prefix h2), compat_suffix (matchesP_suffix h1) (matchesP_suffix h2)⟩

end Go.Proofs.Qxb6001106a
