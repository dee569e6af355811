/-
  DERIVED, BY AN AI AGENT. Seat b6001106a: THE TREE OF TEMPLATES AS A PLAIN FUNCTION: what stands at a path of segments' kinds; insertion; match. No Go in sight.
-/
import Derived.Test.Qxb6001106aPlain
import Derived.Lib.Join
namespace Go.Proofs.Qxb6001106a

/-- A text's bytes. -/
def bl (s : ByteArray) : List UInt8 := s.data.toList
theorem bl_length (s : ByteArray) : (bl s).length = s.size := by simp only [bl, Array.length_toList]; rfl
/-- The texts' bytes. -/
def bls (ss : List ByteArray) : List (List UInt8) := ss.map bl
theorem bls_length (ss : List ByteArray) : (bls ss).length = ss.length := by simp [bls]

/-- What a segment stands for below a node: a parameter (0), a literal text (1), a mixed segment by its key (2). -/
abbrev Key := Nat × List UInt8

/-- (segment).key. -/
def keyOf (s : List ByteArray) : List UInt8 := Lib.join (bls s) [123, 125]

def kindOf (s : List ByteArray) : Key := if bls s = [[], []] then (0, []) else if s.length = 1 then (1, firstOf (bls s)) else (2, keyOf s)

/-- A node: the route whose template ends here; the mixed segments below it, in their order. -/
structure NI where
  route : Option Nat
  mixed : List (List ByteArray)

/-- The tree: the node at a path of kinds. -/
abbrev Trie := List Key → Option NI

def NI.add (i : NI) (s : List ByteArray) : NI := if (kindOf s).1 = 2 then { i with mixed := i.mixed ++ [s] } else i

/-- (*node).child. -/
def childP (N : Trie) (p : List Key) (s : List ByteArray) : Trie :=
  match N p, N (p ++ [kindOf s]) with
  | some i, none => fun q => if q = p ++ [kindOf s] then some ⟨none, []⟩ else if q = p then some (i.add s) else N q
  | _, _ => N

/-- ZZSetRoute. -/
def routeP (N : Trie) (p : List Key) (r : Nat) : Trie :=
  match N p with
  | some i => fun q => if q = p then some { i with route := some r } else N q
  | none => N

/-- zzInsert, from the node at p on. -/
def insertP (N : Trie) (p : List Key) : List (List ByteArray) → Nat → Trie
  | [], r => routeP N p r
  | s :: ss, r => insertP (childP N p s) (p ++ [kindOf s]) ss r

/-- The first round of the loop over the mixed children that finds a route. -/
def mixedP (f : List ByteArray → Option Nat) (t : List UInt8) : List (List ByteArray) → Option Nat
  | [] => none
  | s :: ss => match (if matchesP (bls s) t then f s else none) with
    | some r => some r
    | none => mixedP f t ss

/-- (*node).match. -/
def matchP (N : Trie) (p : List Key) : List ByteArray → Option Nat
  | [] => (N p).bind (·.route)
  | t :: rest =>
    match (if (N (p ++ [(1, bl t)])).isSome then matchP N (p ++ [(1, bl t)]) rest else none) with
    | some r => some r
    | none => match mixedP (fun s => matchP N (p ++ [kindOf s]) rest) (bl t) ((N p).map (·.mixed) |>.getD []) with
      | some r => some r
      | none => if (N (p ++ [(0, [])])).isSome ∧ bl t ≠ [] then matchP N (p ++ [(0, [])]) rest else none

theorem append_one_ne (p : List Key) (k : Key) : p ++ [k] ≠ p := by
  intro h
  have := congrArg List.length h
  simp at this

theorem append_one_inj {p q : List Key} {k l : Key} (h : p ++ [k] = q ++ [l]) : p = q ∧ k = l := by
  have := List.append_inj' h rfl
  exact ⟨this.1, by simpa using this.2⟩

end Go.Proofs.Qxb6001106a
