/-
  No cell of these rows narrows 'for every input' (looked for: loops, veiled, ifaces, maps, wideKeys, modest, calm, conditions, laid).
  DERIVED. THE GIVEN ROWS OF THIS SEAT. 6 by the template 'for every input the law returns true; each argument reads behind the call as it read before'; 0 by the template 'total and deterministic' (their statements: Qxb6001106aTotals.lean).
  GIVEN WITH THE SEED: the statements are not yours to turn. If you find one false, say at which input.
  Laid BY PROGRAM, IN A SANDBOX (cutbox-rows.mjs): the forced cells as the released guide's own fill.sh prints them over the translation 2c629504c916634a… (all of the seat's roots in one cut). By AI agents, Wed Nov 11 2026. No macro, syntax, notation, axiom, sorry.
-/
import Derived.Test.Qxb6001106aChecked
import GoSem.Claim
import GoSem.ClaimJoined
import GoSem.ClaimMapViews
import Derived.JoinedTies
import Derived.KernelRfl
namespace Go.Proofs.Qxb6001106a
/- THE CELL 'sum', in the pinned program and in every row, IS THE sha256 OF THE DUMP (.gsa) THAT Qxb6001106aProg.lean LOADS. Nothing in Lean hashes anything: it is a label: what it is worth is what the hold of that sum in a sandbox is worth. -/
noncomputable def Try.pinned : Pinned := { name := "qxb6001106a", sum := "2c629504c916634a2593a1756af78d2083092831cabc00e5afa0dfb83c423487", checked := Try.checked }
namespace Rows
def none {H : Type} : Left H := { results := [], args := [] }

/-- 'zzlaws_internal_policy_b1.FnOverlapsSymmetric': WHATEVER THE INPUT: true; the input reads as it did. -/
def fnOverlapsSymmetricSpec : ChangeSpec := { name := "fnOverlapsSymmetric", fn := fun _ => fun
  | [d1, d2] => { results := [.lit (.bool true)], args := [d1, d2] }
  | _ => none }
def fnOverlapsSymmetricRow : OpenClaim := { program := "qxb6001106a", sum := "2c629504c916634a2593a1756af78d2083092831cabc00e5afa0dfb83c423487", func := "example.com/gatelatch/gatelatch/zzlaws_internal_policy_b1.FnOverlapsSymmetric", spec := "fnOverlapsSymmetric", inPlace := ["internal/bytealg.IndexByteString", "internal/bytealg.IndexString"], named := ["internal/bytealg.MaxLen"], apart := false }
def FnOverlapsSymmetricSaid : Prop := fnOverlapsSymmetricRow.holds Try.pinned (OpenSpec.ofChange fnOverlapsSymmetricSpec)

/-- ITS FALSE NEIGHBOUR: 'it returns false'. Refute it at one input. -/
def fnOverlapsSymmetricWrong : ChangeSpec := { name := "fnOverlapsSymmetric", fn := fun _ => fun
  | [d1, d2] => { results := [.lit (.bool false)], args := [d1, d2] }
  | _ => none }
def FnOverlapsSymmetricWrongFalsely : Prop := fnOverlapsSymmetricRow.holds Try.pinned (OpenSpec.ofChange fnOverlapsSymmetricWrong)

/-- 'zzlaws_internal_policy_b1.FnOverlapsSound': WHATEVER THE INPUT: true; the input reads as it did. -/
def fnOverlapsSoundSpec : ChangeSpec := { name := "fnOverlapsSound", fn := fun _ => fun
  | [d1, d2, d3] => { results := [.lit (.bool true)], args := [d1, d2, d3] }
  | _ => none }
def fnOverlapsSoundRow : OpenClaim := { program := "qxb6001106a", sum := "2c629504c916634a2593a1756af78d2083092831cabc00e5afa0dfb83c423487", func := "example.com/gatelatch/gatelatch/zzlaws_internal_policy_b1.FnOverlapsSound", spec := "fnOverlapsSound", inPlace := ["internal/bytealg.IndexByteString", "internal/bytealg.IndexString"], named := ["internal/bytealg.MaxLen"], apart := false }
def FnOverlapsSoundSaid : Prop := fnOverlapsSoundRow.holds Try.pinned (OpenSpec.ofChange fnOverlapsSoundSpec)

/-- ITS FALSE NEIGHBOUR: 'it returns false'. Refute it at one input. -/
def fnOverlapsSoundWrong : ChangeSpec := { name := "fnOverlapsSound", fn := fun _ => fun
  | [d1, d2, d3] => { results := [.lit (.bool false)], args := [d1, d2, d3] }
  | _ => none }
def FnOverlapsSoundWrongFalsely : Prop := fnOverlapsSoundRow.holds Try.pinned (OpenSpec.ofChange fnOverlapsSoundWrong)

/-- 'zzlaws_internal_policy_b1.FnOverlapsExactByWitness': WHATEVER THE INPUT: true; the input reads as it did. -/
def fnOverlapsExactByWitnessSpec : ChangeSpec := { name := "fnOverlapsExactByWitness", fn := fun _ => fun
  | [d1, d2] => { results := [.lit (.bool true)], args := [d1, d2] }
  | _ => none }
def fnOverlapsExactByWitnessRow : OpenClaim := { program := "qxb6001106a", sum := "2c629504c916634a2593a1756af78d2083092831cabc00e5afa0dfb83c423487", func := "example.com/gatelatch/gatelatch/zzlaws_internal_policy_b1.FnOverlapsExactByWitness", spec := "fnOverlapsExactByWitness", inPlace := ["internal/bytealg.IndexByteString", "internal/bytealg.IndexString"], named := ["internal/bytealg.MaxLen"], apart := false }
def FnOverlapsExactByWitnessSaid : Prop := fnOverlapsExactByWitnessRow.holds Try.pinned (OpenSpec.ofChange fnOverlapsExactByWitnessSpec)

/-- ITS FALSE NEIGHBOUR: 'it returns false'. Refute it at one input. -/
def fnOverlapsExactByWitnessWrong : ChangeSpec := { name := "fnOverlapsExactByWitness", fn := fun _ => fun
  | [d1, d2] => { results := [.lit (.bool false)], args := [d1, d2] }
  | _ => none }
def FnOverlapsExactByWitnessWrongFalsely : Prop := fnOverlapsExactByWitnessRow.holds Try.pinned (OpenSpec.ofChange fnOverlapsExactByWitnessWrong)

/-- 'zzlaws_internal_policy_b1.FnChildSharesExactlyEqualSegments': WHATEVER THE INPUT: true; the input reads as it did. -/
def fnChildSharesExactlyEqualSegmentsSpec : ChangeSpec := { name := "fnChildSharesExactlyEqualSegments", fn := fun _ => fun
  | [d] => { results := [.lit (.bool true)], args := [d] }
  | _ => none }
def fnChildSharesExactlyEqualSegmentsRow : OpenClaim := { program := "qxb6001106a", sum := "2c629504c916634a2593a1756af78d2083092831cabc00e5afa0dfb83c423487", func := "example.com/gatelatch/gatelatch/zzlaws_internal_policy_b1.FnChildSharesExactlyEqualSegments", spec := "fnChildSharesExactlyEqualSegments", inPlace := ["internal/abi.NoEscape", "internal/bytealg.MakeNoZero"], apart := false }
def FnChildSharesExactlyEqualSegmentsSaid : Prop := fnChildSharesExactlyEqualSegmentsRow.holds Try.pinned (OpenSpec.ofChange fnChildSharesExactlyEqualSegmentsSpec)

/-- ITS FALSE NEIGHBOUR: 'it returns false'. Refute it at one input. -/
def fnChildSharesExactlyEqualSegmentsWrong : ChangeSpec := { name := "fnChildSharesExactlyEqualSegments", fn := fun _ => fun
  | [d] => { results := [.lit (.bool false)], args := [d] }
  | _ => none }
def FnChildSharesExactlyEqualSegmentsWrongFalsely : Prop := fnChildSharesExactlyEqualSegmentsRow.holds Try.pinned (OpenSpec.ofChange fnChildSharesExactlyEqualSegmentsWrong)

/-- 'zzlaws_internal_policy_b1.FnMatchFindsExactlyTheMatchingTemplates': WHATEVER THE INPUT: true; the input reads as it did. -/
def fnMatchFindsExactlyTheMatchingTemplatesSpec : ChangeSpec := { name := "fnMatchFindsExactlyTheMatchingTemplates", fn := fun _ => fun
  | [d1, d2] => { results := [.lit (.bool true)], args := [d1, d2] }
  | _ => none }
def fnMatchFindsExactlyTheMatchingTemplatesRow : OpenClaim := { program := "qxb6001106a", sum := "2c629504c916634a2593a1756af78d2083092831cabc00e5afa0dfb83c423487", func := "example.com/gatelatch/gatelatch/zzlaws_internal_policy_b1.FnMatchFindsExactlyTheMatchingTemplates", spec := "fnMatchFindsExactlyTheMatchingTemplates", inPlace := ["internal/abi.NoEscape", "internal/bytealg.MakeNoZero", "internal/bytealg.IndexByteString", "internal/bytealg.IndexString"], recurses := true, named := ["internal/bytealg.MaxLen"], apart := false }
def FnMatchFindsExactlyTheMatchingTemplatesSaid : Prop := fnMatchFindsExactlyTheMatchingTemplatesRow.holds Try.pinned (OpenSpec.ofChange fnMatchFindsExactlyTheMatchingTemplatesSpec)

/-- ITS FALSE NEIGHBOUR: 'it returns false'. Refute it at one input. -/
def fnMatchFindsExactlyTheMatchingTemplatesWrong : ChangeSpec := { name := "fnMatchFindsExactlyTheMatchingTemplates", fn := fun _ => fun
  | [d1, d2] => { results := [.lit (.bool false)], args := [d1, d2] }
  | _ => none }
def FnMatchFindsExactlyTheMatchingTemplatesWrongFalsely : Prop := fnMatchFindsExactlyTheMatchingTemplatesRow.holds Try.pinned (OpenSpec.ofChange fnMatchFindsExactlyTheMatchingTemplatesWrong)

/-- 'zzlaws_internal_policy_b1.FnMatchPrefersExactLiteralRoute': WHATEVER THE INPUT: true; the input reads as it did. -/
def fnMatchPrefersExactLiteralRouteSpec : ChangeSpec := { name := "fnMatchPrefersExactLiteralRoute", fn := fun _ => fun
  | [d1, d2, d3] => { results := [.lit (.bool true)], args := [d1, d2, d3] }
  | _ => none }
def fnMatchPrefersExactLiteralRouteRow : OpenClaim := { program := "qxb6001106a", sum := "2c629504c916634a2593a1756af78d2083092831cabc00e5afa0dfb83c423487", func := "example.com/gatelatch/gatelatch/zzlaws_internal_policy_b1.FnMatchPrefersExactLiteralRoute", spec := "fnMatchPrefersExactLiteralRoute", inPlace := ["internal/abi.NoEscape", "internal/bytealg.MakeNoZero", "internal/bytealg.IndexByteString", "internal/bytealg.IndexString"], recurses := true, named := ["internal/bytealg.MaxLen"], apart := false }
def FnMatchPrefersExactLiteralRouteSaid : Prop := fnMatchPrefersExactLiteralRouteRow.holds Try.pinned (OpenSpec.ofChange fnMatchPrefersExactLiteralRouteSpec)

/-- ITS FALSE NEIGHBOUR: 'it returns false'. Refute it at one input. -/
def fnMatchPrefersExactLiteralRouteWrong : ChangeSpec := { name := "fnMatchPrefersExactLiteralRoute", fn := fun _ => fun
  | [d1, d2, d3] => { results := [.lit (.bool false)], args := [d1, d2, d3] }
  | _ => none }
def FnMatchPrefersExactLiteralRouteWrongFalsely : Prop := fnMatchPrefersExactLiteralRouteRow.holds Try.pinned (OpenSpec.ofChange fnMatchPrefersExactLiteralRouteWrong)

end Rows
end Go.Proofs.Qxb6001106a
