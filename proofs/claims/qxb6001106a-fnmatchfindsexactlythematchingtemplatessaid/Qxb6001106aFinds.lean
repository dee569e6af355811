/-
  DERIVED, BY AN AI AGENT. Seat b6001106a: THE PLAIN LAW of FnMatchFindsExactlyTheMatchingTemplates: no Go in sight.
-/
import Derived.Test.Qxb6001106aPrefer
namespace Go.Proofs.Qxb6001106a

def NoBrace (l : List UInt8) : Prop := ∀ c ∈ l, c ≠ 123 ∧ c ≠ 125
/-- A segment that a parsed template may hold. -/
def Good (s : List ByteArray) : Prop := s ≠ [] ∧ ∀ x ∈ s, NoBrace (bl x)

/-! ### The key tells the texts -/

theorem cut_inj : ∀ (x y A C : List UInt8), (∀ c ∈ x, c ≠ 123) → (∀ c ∈ y, c ≠ 123) → (A = [] ∨ ∃ A', A = 123 :: A') → (C = [] ∨ ∃ C', C = 123 :: C') → x ++ A = y ++ C → x = y ∧ A = C
  | [], [], A, C, _, _, _, _, h => ⟨rfl, h⟩
  | [], d :: y, A, C, _, hy, hA, _, h => by
    rcases hA with rfl | ⟨A', rfl⟩
    · simp at h
    · simp at h
      exact absurd h.1.symm (hy d (by simp))
  | d :: x, [], A, C, hx, _, _, hC, h => by
    rcases hC with rfl | ⟨C', rfl⟩
    · simp at h
    · simp at h
      exact absurd h.1 (hx d (by simp))
  | d :: x, e :: y, A, C, hx, hy, hA, hC, h => by
    simp only [List.cons_append, List.cons.injEq] at h
    obtain ⟨h1, h2⟩ := cut_inj x y A C (fun c hc => hx c (by simp [hc])) (fun c hc => hy c (by simp [hc])) hA hC h.2
    exact ⟨by rw [h.1, h1], h2⟩

theorem tail_form (r : List (List UInt8)) : Lib.joinTail [123, 125] r = [] ∨ ∃ A', Lib.joinTail [123, 125] r = 123 :: A' := by
  cases r with
  | nil => exact Or.inl rfl
  | cons y r => exact Or.inr ⟨_, rfl⟩

theorem tail_inj : ∀ (r q : List (List UInt8)), (∀ x ∈ r, ∀ c ∈ x, c ≠ 123) → (∀ x ∈ q, ∀ c ∈ x, c ≠ 123) → Lib.joinTail [123, 125] r = Lib.joinTail [123, 125] q → r = q
  | [], [], _, _, _ => rfl
  | [], y :: q, _, _, h => by simp [Lib.joinTail] at h
  | x :: r, [], _, _, h => by simp [Lib.joinTail] at h
  | x :: r, y :: q, hr, hq, h => by
    have e1 : Lib.joinTail [123, 125] (x :: r) = 123 :: 125 :: (x ++ Lib.joinTail [123, 125] r) := by simp [Lib.joinTail]
    have e2 : Lib.joinTail [123, 125] (y :: q) = 123 :: 125 :: (y ++ Lib.joinTail [123, 125] q) := by simp [Lib.joinTail]
    rw [e1, e2] at h
    simp only [List.cons.injEq, true_and] at h
    obtain ⟨h1, h2⟩ := cut_inj x y _ _ (hr x (by simp)) (hq y (by simp)) (tail_form r) (tail_form q) h
    rw [h1, tail_inj r q (fun z hz => hr z (by simp [hz])) (fun z hz => hq z (by simp [hz])) h2]

theorem key_inj {s s' : List ByteArray} (h : Good s) (h' : Good s') (e : keyOf s = keyOf s') : bls s = bls s' := by
  unfold keyOf at e
  obtain ⟨x, r, rfl⟩ : ∃ x r, s = x :: r := by
    cases s with
    | nil => exact absurd rfl h.1
    | cons x r => exact ⟨x, r, rfl⟩
  obtain ⟨y, q, rfl⟩ : ∃ y q, s' = y :: q := by
    cases s' with
    | nil => exact absurd rfl h'.1
    | cons y q => exact ⟨y, q, rfl⟩
  have e1 : bls (x :: r) = bl x :: bls r := rfl
  have e2 : bls (y :: q) = bl y :: bls q := rfl
  rw [e1, e2, Lib.join_cons, Lib.join_cons] at e
  obtain ⟨h1, h2⟩ := cut_inj _ _ _ _ (fun c hc => (h.2 x (by simp) c hc).1) (fun c hc => (h'.2 y (by simp) c hc).1) (tail_form _) (tail_form _) e
  have h3 := tail_inj _ _ (fun z hz c hc => by
    obtain ⟨u, hu, rfl⟩ := List.mem_map.1 hz
    exact (h.2 u (by simp [hu]) c hc).1) (fun z hz c hc => by
    obtain ⟨u, hu, rfl⟩ := List.mem_map.1 hz
    exact (h'.2 u (by simp [hu]) c hc).1) h2
  rw [e1, e2, h1, h3]

/-- What a segment is, by its kind. -/
theorem kind_cases (s : List ByteArray) : (bls s = [[], []] ∧ kindOf s = (0, [])) ∨ (∃ t, s = [t] ∧ kindOf s = (1, bl t)) ∨ (bls s ≠ [[], []] ∧ s.length ≠ 1 ∧ kindOf s = (2, keyOf s)) := by
  unfold kindOf
  by_cases h : bls s = [[], []]
  · left; exact ⟨h, by rw [if_pos h]⟩
  · right
    by_cases h1 : s.length = 1
    · left
      match s, h1 with
      | [t], _ => exact ⟨t, rfl, by rw [if_neg h]; rfl⟩
    · right; exact ⟨h, h1, by rw [if_neg h, if_neg h1]⟩

/-- Two good segments of one kind match the same texts. -/
theorem kind_same {s s' : List ByteArray} (h : Good s) (h' : Good s') (e : kindOf s = kindOf s') : bls s = bls s' := by
  rcases kind_cases s with ⟨h1, h2⟩ | ⟨t, h1, h2⟩ | ⟨_, _, h2⟩ <;> rcases kind_cases s' with ⟨g1, g2⟩ | ⟨u, g1, g2⟩ | ⟨_, _, g2⟩ <;> rw [h2, g2] at e
  · rw [h1, g1]
  · cases e
  · cases e
  · cases e
  · have : bl t = bl u := congrArg Prod.snd e
    rw [h1, g1]
    show [bl t] = [bl u]
    rw [this]
  · cases e
  · cases e
  · cases e
  · exact key_inj h h' (congrArg Prod.snd e)

/-! ### The tree is well formed -/

def WF (N : Trie) : Prop := ∀ p i, N p = some i → (∀ s ∈ i.mixed, Good s ∧ (kindOf s).1 = 2) ∧ ∀ k, N (p ++ [(2, k)]) ≠ none → ∃ s ∈ i.mixed, kindOf s = (2, k)

theorem NI.add_mixed (i : NI) (s : List ByteArray) : (i.add s).mixed = if (kindOf s).1 = 2 then i.mixed ++ [s] else i.mixed := by
  unfold NI.add; split <;> rfl

theorem childP_wf {N : Trie} {p : List Key} {s : List ByteArray} (hc : ∀ q k, N (q ++ [k]) ≠ none → N q ≠ none) (h : WF N) (hs : Good s) : WF (childP N p s) := by
  unfold childP
  cases e1 : N p with
  | none => exact h
  | some i =>
    cases e2 : N (p ++ [kindOf s]) with
    | some j => exact h
    | none =>
      intro q j hq
      simp only at hq ⊢
      by_cases h1 : q = p ++ [kindOf s]
      · rw [if_pos h1] at hq
        cases hq
        refine ⟨by simp, fun k hk => ?_⟩
        rw [if_neg (by rw [h1]; exact append_one_ne _ _)] at hk
        by_cases h3 : q ++ [(2, k)] = p
        · exact absurd (congrArg List.length h3) (by rw [h1]; simp)
        · rw [if_neg h3] at hk
          exact absurd e2 (by rw [← h1]; exact hc q _ hk)
      · rw [if_neg h1] at hq
        by_cases h2 : q = p
        · subst h2
          rw [if_pos rfl] at hq
          cases hq
          obtain ⟨g1, g2⟩ := h q i e1
          rw [NI.add_mixed]
          constructor
          · intro x hx
            split at hx
            · rename_i h9
              simp at hx
              rcases hx with hx | rfl
              · exact g1 x hx
              · exact ⟨hs, h9⟩
            · exact g1 x hx
          · intro k hk
            by_cases h3 : q ++ [(2, k)] = q ++ [kindOf s]
            · have := (append_one_inj h3).2
              rw [← this, if_pos rfl]
              exact ⟨s, by simp, this.symm⟩
            · rw [if_neg h3, if_neg (append_one_ne _ _)] at hk
              obtain ⟨x, hx, hxk⟩ := g2 k hk
              refine ⟨x, ?_, hxk⟩
              split
              · simp [hx]
              · exact hx
        · rw [if_neg h2] at hq
          obtain ⟨g1, g2⟩ := h q j hq
          refine ⟨g1, fun k hk => g2 k ?_⟩
          rw [if_neg (fun e => h2 (append_one_inj e).1)] at hk
          by_cases h3 : q ++ [(2, k)] = p
          · rw [h3, e1]; simp
          · rwa [if_neg h3] at hk

def Closed (N : Trie) : Prop := ∀ q k, N (q ++ [k]) ≠ none → N q ≠ none

theorem childP_closed {N : Trie} {p : List Key} {s : List ByteArray} (h : Closed N) : Closed (childP N p s) := by
  intro q k hk
  by_cases h0 : N (q ++ [k]) = none
  · -- the new node
    unfold childP at hk ⊢
    cases e1 : N p with
    | none => rw [e1] at hk; exact absurd h0 hk
    | some i =>
      cases e2 : N (p ++ [kindOf s]) with
      | some j => rw [e1, e2] at hk; exact absurd h0 hk
      | none =>
        rw [e1, e2] at hk
        simp only at hk ⊢
        by_cases h1 : q ++ [k] = p ++ [kindOf s]
        · have := (append_one_inj h1).1
          subst this
          rw [if_neg (Ne.symm (append_one_ne _ _)), if_pos rfl]
          simp
        · rw [if_neg h1] at hk
          by_cases h2 : q ++ [k] = p
          · rw [h2, e1] at h0; cases h0
          · rw [if_neg h2] at hk
            exact absurd h0 hk
  · exact childP_keeps N p s q (h q k h0)

theorem routeP_wf {N : Trie} {p : List Key} {r : Nat} (h : WF N) : WF (routeP N p r) := by
  unfold routeP
  cases e1 : N p with
  | none => exact h
  | some i =>
    intro q j hq
    simp only at hq ⊢
    have hk : ∀ k, (if q ++ [(2, k)] = p then some { i with route := some r } else N (q ++ [(2, k)])) ≠ none → N (q ++ [(2, k)]) ≠ none := by
      intro k hk
      by_cases h3 : q ++ [(2, k)] = p
      · rw [h3, e1]; simp
      · rwa [if_neg h3] at hk
    by_cases h2 : q = p
    · subst h2
      rw [if_pos rfl] at hq
      cases hq
      obtain ⟨g1, g2⟩ := h q i e1
      exact ⟨g1, fun k h3 => g2 k (hk k h3)⟩
    · rw [if_neg h2] at hq
      obtain ⟨g1, g2⟩ := h q j hq
      exact ⟨g1, fun k h3 => g2 k (hk k h3)⟩

theorem routeP_closed {N : Trie} {p : List Key} {r : Nat} (h : Closed N) : Closed (routeP N p r) := by
  intro q k hk
  refine routeP_keeps N p r q (h q k ?_)
  unfold routeP at hk
  cases e1 : N p with
  | none => rw [e1] at hk; exact hk
  | some i =>
    rw [e1] at hk
    simp only at hk
    by_cases h2 : q ++ [k] = p
    · rw [h2, e1]; simp
    · rwa [if_neg h2] at hk

theorem insertP_wf : ∀ (T : List (List ByteArray)) (N : Trie) (p : List Key) (r : Nat), Closed N → WF N → (∀ s ∈ T, Good s) → WF (insertP N p T r) ∧ Closed (insertP N p T r)
  | [], N, p, r, hc, h, _ => ⟨routeP_wf h, routeP_closed hc⟩
  | s :: T, N, p, r, hc, h, hs => insertP_wf T (childP N p s) (p ++ [kindOf s]) r (childP_closed hc) (childP_wf hc h (hs s (by simp))) (fun x hx => hs x (by simp [hx]))

/-! ### All templates inserted -/

def buildP (N : Trie) (L : List (List (List ByteArray) × Nat)) : Trie := L.foldl (fun N x => insertP N [] x.1 x.2) N

theorem buildP_snoc (N : Trie) (L : List (List (List ByteArray) × Nat)) (T : List (List ByteArray)) (r : Nat) : buildP N (L ++ [(T, r)]) = insertP (buildP N L) [] T r := by
  simp [buildP]

structure Built (N : Trie) (L : List (List (List ByteArray) × Nat)) : Prop where
  wf : WF N
  closed : Closed N
  root : N [] ≠ none
  route : ∀ q r, routeOf N q = some r → ∃ T, (T, r) ∈ L ∧ kinds T = q
  has : ∀ T r, (T, r) ∈ L → routeOf N (kinds T) ≠ none ∧ ∀ k, N ((kinds T).take k) ≠ none

def rootT : Trie := fun q => if q = [] then some ⟨none, []⟩ else none

theorem built_root : Built rootT [] := by
  refine ⟨?_, ?_, by simp [rootT], ?_, by simp⟩
  · intro p i hp
    unfold rootT at hp
    split at hp
    · cases hp
      refine ⟨by simp, fun k hk => absurd ?_ hk⟩
      simp [rootT]
    · cases hp
  · intro q k h
    exact absurd (by simp [rootT]) h
  · intro q r h
    unfold routeOf rootT at h
    split at h <;> simp at h

theorem built_snoc {N : Trie} {L : List (List (List ByteArray) × Nat)} (h : Built N L) (T : List (List ByteArray)) (r : Nat) (hT : ∀ s ∈ T, Good s) : Built (insertP N [] T r) (L ++ [(T, r)]) := by
  obtain ⟨w1, w2⟩ := insertP_wf T N [] r h.closed h.wf hT
  refine ⟨w1, w2, insertP_keeps _ _ _ _ _ h.root, ?_, ?_⟩
  · intro q r' hr
    rw [insertP_route T N [] r q h.root] at hr
    split at hr
    · rename_i e
      cases hr
      exact ⟨T, by simp, by simpa using e.symm⟩
    · obtain ⟨T', h1, h2⟩ := h.route q r' hr
      exact ⟨T', by simp [h1], h2⟩
  · intro T' r' hm
    simp at hm
    rcases hm with hm | ⟨rfl, rfl⟩
    · obtain ⟨g1, g2⟩ := h.has T' r' hm
      refine ⟨?_, fun k => insertP_keeps _ _ _ _ _ (g2 k)⟩
      rw [insertP_route T N [] r _ h.root]
      split
      · simp
      · exact g1
    · refine ⟨?_, fun k => by simpa using insertP_on T' N [] r' k h.root⟩
      rw [insertP_route T' N [] r' _ h.root, if_pos (by simp)]
      simp

/-! ### zzTemplateMatches -/

def tmatchP : List (List ByteArray) → List ByteArray → Bool
  | [], [] => true
  | s :: T, t :: path => segMatchesP (bls s) (bl t) && tmatchP T path
  | _, _ => false

/-- Every good segment of the kind k matches t. -/
def KM (k : Key) (t : ByteArray) : Prop := ∀ s, Good s → kindOf s = k → segMatchesP (bls s) (bl t) = true

def KMs : List Key → List ByteArray → Prop
  | [], [] => True
  | k :: ks, t :: path => KM k t ∧ KMs ks path
  | _, _ => False

theorem mixed_sound {f : List ByteArray → Option Nat} {t : List UInt8} {r : Nat} : ∀ {L : List (List ByteArray)}, mixedP f t L = some r → ∃ s ∈ L, matchesP (bls s) t = true ∧ f s = some r
  | [], h => by cases h
  | s :: L, h => by
    unfold mixedP at h
    split at h
    · rename_i r' hr
      split at hr
      · rename_i hm
        cases h
        exact ⟨s, by simp, hm, hr⟩
      · cases hr
    · obtain ⟨x, hx, g⟩ := mixed_sound h
      exact ⟨x, by simp [hx], g⟩

theorem mixed_complete {f : List ByteArray → Option Nat} {t : List UInt8} {s : List ByteArray} : ∀ {L : List (List ByteArray)}, s ∈ L → matchesP (bls s) t = true → f s ≠ none → mixedP f t L ≠ none
  | [], h, _, _ => by cases h
  | x :: L, h, hm, hf => by
    unfold mixedP
    split
    · simp
    · rename_i hn
      rcases List.mem_cons.1 h with rfl | h
      · rw [if_pos hm] at hn
        exact absurd hn hf
      · exact mixed_complete h hm hf

theorem seg_param (t : List UInt8) : segMatchesP [[], []] t = decide (t ≠ []) := by
  unfold segMatchesP
  rw [if_neg (by simp)]
  unfold matchesP
  have e1 : firstOf [[], []] = ([] : List UInt8) := rfl
  have e2 : lastOf [[], []] = ([] : List UInt8) := rfl
  have e3 : innerOf [[], []] = ([] : List (List UInt8)) := rfl
  rw [e1, e2, e3, List.length_nil, List.drop_zero]
  cases t with
  | nil => rfl
  | cons x r => simp [midsFrom, endB, Lib.hasPrefix, Lib.hasSuffix]

theorem match_sound (N : Trie) (hw : WF N) : ∀ (path : List ByteArray) (p : List Key) (r : Nat), matchP N p path = some r → ∃ ks, routeOf N (p ++ ks) = some r ∧ KMs ks path
  | [], p, r, h => ⟨[], by simpa [routeOf, matchP] using h, trivial⟩
  | t :: rest, p, r, h => by
    unfold matchP at h
    split at h
    · rename_i r' hr
      cases h
      split at hr
      · obtain ⟨ks, g1, g2⟩ := match_sound N hw rest _ _ hr
        refine ⟨(1, bl t) :: ks, by simpa using g1, ?_, g2⟩
        intro s _ hk
        have := kind_is_one hk
        subst this
        simp [segMatchesP, bls, firstOf]
      · cases hr
    · split at h
      · rename_i r' hr
        cases h
        obtain ⟨s, hs, hm, hf⟩ := mixed_sound hr
        obtain ⟨ks, g1, g2⟩ := match_sound N hw rest _ _ hf
        refine ⟨kindOf s :: ks, by simpa using g1, ?_, g2⟩
        cases e : N p with
        | none => rw [e] at hs; simp at hs
        | some i =>
          rw [e] at hs
          simp only [Option.map_some, Option.getD_some] at hs
          obtain ⟨hg, h2⟩ := (hw p i e).1 s hs
          intro s' hg' hk
          rw [kind_same hg' hg hk]
          unfold segMatchesP
          rw [if_neg, hm]
          rw [bls_length]
          intro h1
          match s, h1 with
          | [y], _ => rw [kind_one] at h2; cases h2
      · split at h
        · rename_i hc
          obtain ⟨ks, g1, g2⟩ := match_sound N hw rest _ _ h
          refine ⟨(0, []) :: ks, by simpa using g1, ?_, g2⟩
          intro s _ hk
          rcases kind_cases s with ⟨h1, _⟩ | ⟨u, _, h2⟩ | ⟨_, _, h2⟩
          · rw [h1, seg_param]; simpa using hc.2
          · rw [h2] at hk; cases hk
          · rw [h2] at hk; cases hk
        · cases h

theorem tmatch_of_KMs : ∀ (T : List (List ByteArray)) (path : List ByteArray), (∀ s ∈ T, Good s) → KMs (kinds T) path → tmatchP T path = true
  | [], [], _, _ => rfl
  | [], t :: path, _, h => by cases h
  | s :: T, [], _, h => by cases h
  | s :: T, t :: path, hg, h => by
    obtain ⟨h1, h2⟩ : KM (kindOf s) t ∧ KMs (kinds T) path := h
    unfold tmatchP
    rw [h1 s (hg s (by simp)) rfl, tmatch_of_KMs T path (fun x hx => hg x (by simp [hx])) h2]
    rfl

theorem match_complete (N : Trie) (hw : WF N) : ∀ (T : List (List ByteArray)) (path : List ByteArray) (p : List Key), (∀ s ∈ T, Good s) → (∀ k, N (p ++ (kinds T).take k) ≠ none) → routeOf N (p ++ kinds T) ≠ none → tmatchP T path = true → matchP N p path ≠ none
  | [], [], p, _, _, hr, _ => by simpa [kinds, routeOf, matchP] using hr
  | [], t :: path, _, _, _, _, h => by cases h
  | s :: T, [], _, _, _, _, h => by cases h
  | s :: T, t :: path, p, hg, hk, hr, h => by
    unfold tmatchP at h
    rw [Bool.and_eq_true] at h
    have ih := match_complete N hw T path (p ++ [kindOf s]) (fun x hx => hg x (by simp [hx])) (fun k => by simpa [kinds] using hk (k + 1)) (by simpa [kinds] using hr) h.2
    have hs := hg s (by simp)
    have hns : N (p ++ [kindOf s]) ≠ none := by simpa [kinds] using hk 1
    have hnp : N p ≠ none := by simpa using hk 0
    unfold matchP
    rcases kind_cases s with ⟨h1, h2⟩ | ⟨u, h1, h2⟩ | ⟨h1, h1', h2⟩
    · rw [h2] at ih hns
      rw [h1, seg_param] at h
      split
      · simp
      · split
        · simp
        · rw [if_pos ⟨Option.isSome_iff_ne_none.2 hns, by simpa using h.1⟩]
          exact ih
    · subst h1
      have hut : bl t = bl u := by simpa [segMatchesP, bls, firstOf] using h.1
      rw [h2, ← hut] at ih hns
      rw [if_pos (Option.isSome_iff_ne_none.2 hns)]
      split
      · simp
      · rename_i hn
        exact absurd hn ih
    · split
      · simp
      · obtain ⟨i, hi⟩ := Option.ne_none_iff_exists'.1 hnp
        obtain ⟨x, hx, hxk⟩ := (hw p i hi).2 (keyOf s) (by rw [← h2]; exact hns)
        have hgx := ((hw p i hi).1 x hx).1
        have hbx : bls x = bls s := kind_same hgx hs (by rw [hxk, h2])
        have hm : matchesP (bls x) (bl t) = true := by
          have := h.1
          unfold segMatchesP at this
          rw [if_neg (by rw [bls_length]; exact h1')] at this
          rw [hbx]; exact this
        have := mixed_complete (f := fun s => matchP N (p ++ [kindOf s]) path) (L := i.mixed) hx hm (by show matchP N (p ++ [kindOf x]) path ≠ none; rw [hxk, ← h2]; exact ih)
        rw [hi]
        simp only [Option.map_some, Option.getD_some]
        split
        · simp
        · rename_i hn
          exact absurd hn this

/-- THE LAW. -/
theorem finds_none {N : Trie} {L : List (List (List ByteArray) × Nat)} (h : Built N L) (hg : ∀ T r, (T, r) ∈ L → ∀ s ∈ T, Good s) {path : List ByteArray} (hm : matchP N [] path = none) : ∀ T r, (T, r) ∈ L → tmatchP T path = false := by
  intro T r hT
  cases e : tmatchP T path with
  | false => rfl
  | true =>
    obtain ⟨g1, g2⟩ := h.has T r hT
    exact absurd hm (match_complete N h.wf T path [] (hg T r hT) (fun k => by simpa using g2 k) (by simpa using g1) e)

theorem finds_some {N : Trie} {L : List (List (List ByteArray) × Nat)} (h : Built N L) (hg : ∀ T r, (T, r) ∈ L → ∀ s ∈ T, Good s) {path : List ByteArray} {r : Nat} (hm : matchP N [] path = some r) : ∃ T, (T, r) ∈ L ∧ tmatchP T path = true := by
  obtain ⟨ks, g1, g2⟩ := match_sound N h.wf path [] r hm
  obtain ⟨T, hT, hk⟩ := h.route ks r (by simpa using g1)
  exact ⟨T, hT, tmatch_of_KMs T path (hg T r hT) (by rw [hk]; exact g2)⟩

end Go.Proofs.Qxb6001106a
