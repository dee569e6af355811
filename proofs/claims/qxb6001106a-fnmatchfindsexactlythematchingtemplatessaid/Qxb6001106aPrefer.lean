/-
  DERIVED, BY AN AI AGENT. Seat b6001106a: THE PLAIN LAW of FnMatchPrefersExactLiteralRoute: no Go in sight.
-/
import Derived.Test.Qxb6001106aTrie
namespace Go.Proofs.Qxb6001106a

def routeOf (N : Trie) (q : List Key) : Option Nat := (N q).bind (·.route)
def kinds (T : List (List ByteArray)) : List Key := T.map kindOf

theorem childP_at (N : Trie) (p : List Key) (s : List ByteArray) (hp : N p ≠ none) : childP N p s (p ++ [kindOf s]) ≠ none := by
  unfold childP
  cases e1 : N p with
  | none => exact absurd e1 hp
  | some i =>
    cases e2 : N (p ++ [kindOf s]) with
    | some j => simp [e2]
    | none => simp

theorem childP_keeps (N : Trie) (p : List Key) (s : List ByteArray) (q : List Key) (h : N q ≠ none) : childP N p s q ≠ none := by
  unfold childP
  cases e1 : N p with
  | none => exact h
  | some i =>
    cases e2 : N (p ++ [kindOf s]) with
    | some j => exact h
    | none =>
      by_cases h1 : q = p ++ [kindOf s]
      · simp [h1]
      · by_cases h2 : q = p
        · subst h2; simp [h1]
        · simp [h1, h2, h]

theorem childP_route (N : Trie) (p : List Key) (s : List ByteArray) (q : List Key) : routeOf (childP N p s) q = routeOf N q := by
  unfold routeOf childP
  cases e1 : N p with
  | none => rfl
  | some i =>
    cases e2 : N (p ++ [kindOf s]) with
    | some j => rfl
    | none =>
      by_cases h1 : q = p ++ [kindOf s]
      · subst h1; simp [e2]
      · by_cases h2 : q = p
        · subst h2
          simp only [h1, if_false, if_true, e1]
          unfold NI.add
          split <;> rfl
        · simp [h1, h2]

theorem routeP_keeps (N : Trie) (p : List Key) (r : Nat) (q : List Key) (h : N q ≠ none) : routeP N p r q ≠ none := by
  unfold routeP
  cases e1 : N p with
  | none => exact h
  | some i =>
    by_cases h2 : q = p
    · simp [h2]
    · simp [h2, h]

theorem routeP_route (N : Trie) (p : List Key) (r : Nat) (q : List Key) (hp : N p ≠ none) : routeOf (routeP N p r) q = if q = p then some r else routeOf N q := by
  unfold routeOf routeP
  cases e1 : N p with
  | none => exact absurd e1 hp
  | some i =>
    by_cases h2 : q = p
    · simp [h2]
    · simp [h2]

theorem insertP_keeps : ∀ (T : List (List ByteArray)) (N : Trie) (p : List Key) (r : Nat) (q : List Key), N q ≠ none → insertP N p T r q ≠ none
  | [], N, p, r, q, h => routeP_keeps N p r q h
  | s :: T, N, p, r, q, h => insertP_keeps T (childP N p s) (p ++ [kindOf s]) r q (childP_keeps N p s q h)

theorem insertP_route : ∀ (T : List (List ByteArray)) (N : Trie) (p : List Key) (r : Nat) (q : List Key), N p ≠ none → routeOf (insertP N p T r) q = if q = p ++ kinds T then some r else routeOf N q
  | [], N, p, r, q, hp => by
    have := routeP_route N p r q hp
    simpa [insertP, kinds] using this
  | s :: T, N, p, r, q, hp => by
    have := insertP_route T (childP N p s) (p ++ [kindOf s]) r q (childP_at N p s hp)
    rw [insertP, this, childP_route]
    have e : p ++ [kindOf s] ++ kinds T = p ++ kinds (s :: T) := by simp [kinds]
    rw [e]

theorem insertP_on : ∀ (T : List (List ByteArray)) (N : Trie) (p : List Key) (r : Nat) (k : Nat), N p ≠ none → insertP N p T r (p ++ (kinds T).take k) ≠ none
  | [], N, p, r, k, hp => by
    have : p ++ (kinds []).take k = p := by simp [kinds]
    rw [this]
    exact insertP_keeps [] N p r p hp
  | s :: T, N, p, r, 0, hp => by
    have : p ++ (kinds (s :: T)).take 0 = p := by simp
    rw [this]
    exact insertP_keeps (s :: T) N p r p hp
  | s :: T, N, p, r, k + 1, hp => by
    have := insertP_on T (childP N p s) (p ++ [kindOf s]) r k (childP_at N p s hp)
    have e : p ++ (kinds (s :: T)).take (k + 1) = p ++ [kindOf s] ++ (kinds T).take k := by simp [kinds]
    rw [e]
    exact this

/-- The path as a template of literal segments. -/
def litT (path : List ByteArray) : List (List ByteArray) := path.map fun t => [t]

theorem kind_one (t : ByteArray) : kindOf [t] = (1, bl t) := by
  unfold kindOf
  rw [if_neg (by simp [bls]), if_pos (show [t].length = 1 from rfl)]
  rfl

theorem kinds_lit (path : List ByteArray) : kinds (litT path) = path.map fun t => ((1, bl t) : Key) := by
  simp [kinds, litT, kind_one]

theorem match_lit (N : Trie) (r : Nat) : ∀ (path : List ByteArray) (p : List Key), (∀ k, N (p ++ (kinds (litT path)).take k) ≠ none) → routeOf N (p ++ kinds (litT path)) = some r → matchP N p path = some r
  | [], p, _, hr => by
    have e : p ++ kinds (litT []) = p := by simp [kinds, litT]
    rw [e] at hr
    exact hr
  | t :: rest, p, hk, hr => by
    have e : kinds (litT (t :: rest)) = (1, bl t) :: kinds (litT rest) := by simp [kinds, litT, kind_one]
    rw [e] at hk hr
    have h1 : N (p ++ [(1, bl t)]) ≠ none := by simpa using hk 1
    have ih := match_lit N r rest (p ++ [(1, bl t)]) (fun k => by simpa using hk (k + 1)) (by simpa using hr)
    unfold matchP
    rw [if_pos (by simpa [Option.isSome_iff_ne_none] using h1), ih]

theorem bl_inj' {u t : ByteArray} (h : bl u = bl t) : u = t := by
  obtain ⟨⟨l⟩⟩ := u
  obtain ⟨⟨l'⟩⟩ := t
  have : l = l' := h
  subst this
  rfl

theorem kind_is_one {s : List ByteArray} {t : ByteArray} (h : kindOf s = (1, bl t)) : s = [t] := by
  unfold kindOf at h
  split at h
  · cases h
  · split at h
    · rename_i h1
      match s, h1 with
      | [x], _ =>
        have : bl x = bl t := by
          have := congrArg Prod.snd h
          simpa [firstOf, bls] using this
        rw [bl_inj' this]
    · cases h

theorem kinds_eq_lit : ∀ (T : List (List ByteArray)) (path : List ByteArray), kinds T = kinds (litT path) → T = litT path
  | [], [], _ => rfl
  | [], t :: r, h => by simp [kinds, litT] at h
  | s :: T, [], h => by simp [kinds, litT] at h
  | s :: T, t :: r, h => by
    have e : kinds (litT (t :: r)) = (1, bl t) :: kinds (litT r) := by simp [kinds, litT, kind_one]
    rw [e] at h
    have e2 : kinds (s :: T) = kindOf s :: kinds T := rfl
    rw [e2] at h
    have h1 := (List.cons.inj h).1
    have h2 := (List.cons.inj h).2
    have ih := kinds_eq_lit T r h2
    rw [kind_is_one h1, ih]
    rfl

/-- THE LAW: the literal template first. -/
theorem prefer_first (N : Trie) (path : List ByteArray) (other : List (List ByteArray)) (rA rB : Nat) (hr : N [] ≠ none) (hne : other ≠ litT path) : matchP (insertP (insertP N [] (litT path) rA) [] other rB) [] path = some rA := by
  refine match_lit _ rA path [] (fun k => insertP_keeps _ _ _ _ _ (insertP_on _ N [] rA k hr)) ?_
  rw [insertP_route other _ [] rB _ (insertP_keeps _ _ _ _ _ hr), if_neg, insertP_route _ N [] rA _ hr, if_pos rfl]
  intro e
  exact hne (kinds_eq_lit other path (by simpa using e.symm))

/-- THE LAW: the literal template last. -/
theorem prefer_last (N : Trie) (path : List ByteArray) (other : List (List ByteArray)) (rA rB : Nat) (hr : N [] ≠ none) : matchP (insertP (insertP N [] other rB) [] (litT path) rA) [] path = some rA := by
  have hr' : insertP N [] other rB [] ≠ none := insertP_keeps _ _ _ _ _ hr
  refine match_lit _ rA path [] (fun k => insertP_on _ _ [] rA k hr') ?_
  rw [insertP_route _ _ [] rA _ hr', if_pos rfl]

end Go.Proofs.Qxb6001106a
