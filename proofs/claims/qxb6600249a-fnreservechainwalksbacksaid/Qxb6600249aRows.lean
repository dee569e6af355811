/-
  No cell of these rows narrows 'for every input' (looked for: loops, veiled, ifaces, maps, wideKeys, modest, calm, conditions, laid).
  DERIVED. THE GIVEN ROWS OF THIS SEAT. 6 by the template 'for every input the law returns true; each argument reads behind the call as it read before'; 0 by the template 'total and deterministic' (their statements: Qxb6600249aTotals.lean).
  GIVEN WITH THE SEED: the statements are not yours to turn. If you find one false, say at which input.
  Laid BY PROGRAM, IN A SANDBOX (cutbox-rows.mjs): the forced cells as the released guide's own fill.sh prints them over the translation 92267a8ca1eae5c3… (all of the seat's roots in one cut). By AI agents, Wed Nov 11 2026. No macro, syntax, notation, axiom, sorry.
-/
import Derived.Test.Qxb6600249aChecked
import GoSem.Claim
import GoSem.ClaimJoined
import GoSem.ClaimMapViews
import Derived.JoinedTies
import Derived.KernelRfl
namespace Go.Proofs.Qxb6600249a
/- THE CELL 'sum', in the pinned program and in every row, IS THE sha256 OF THE DUMP (.gsa) THAT Qxb6600249aProg.lean LOADS. Nothing in Lean hashes anything: it is a label: what it is worth is what the hold of that sum in a sandbox is worth. -/
noncomputable def Try.pinned : Pinned := { name := "qxb6600249a", sum := "92267a8ca1eae5c3ca387dee035d79d427c7cff166aff4805d3b1d17611637ce", checked := Try.checked }
namespace Rows
def none {H : Type} : Left H := { results := [], args := [] }

/-- 'zzlaws_internal_expand_b1.FnValueStringMatchesConcatModel': WHATEVER THE INPUT: true; the input reads as it did. -/
def fnValueStringMatchesConcatModelSpec : ChangeSpec := { name := "fnValueStringMatchesConcatModel", fn := fun _ => fun
  | [d1, d2] => { results := [.lit (.bool true)], args := [d1, d2] }
  | _ => none }
def fnValueStringMatchesConcatModelRow : OpenClaim := { program := "qxb6600249a", sum := "92267a8ca1eae5c3ca387dee035d79d427c7cff166aff4805d3b1d17611637ce", func := "example.com/holdfast/holdfast/zzlaws_internal_expand_b1.FnValueStringMatchesConcatModel", spec := "fnValueStringMatchesConcatModel", inPlace := ["internal/bytealg.IndexByteString", "internal/abi.NoEscape", "internal/bytealg.MakeNoZero"], apart := false }
def FnValueStringMatchesConcatModelSaid : Prop := fnValueStringMatchesConcatModelRow.holds Try.pinned (OpenSpec.ofChange fnValueStringMatchesConcatModelSpec)

/-- ITS FALSE NEIGHBOUR: 'it returns false'. Refute it at one input. -/
def fnValueStringMatchesConcatModelWrong : ChangeSpec := { name := "fnValueStringMatchesConcatModel", fn := fun _ => fun
  | [d1, d2] => { results := [.lit (.bool false)], args := [d1, d2] }
  | _ => none }
def FnValueStringMatchesConcatModelWrongFalsely : Prop := fnValueStringMatchesConcatModelRow.holds Try.pinned (OpenSpec.ofChange fnValueStringMatchesConcatModelWrong)

/-- 'zzlaws_internal_expand_b1.FnValueStringIgnoresGrouping': WHATEVER THE INPUT: true; the input reads as it did. -/
def fnValueStringIgnoresGroupingSpec : ChangeSpec := { name := "fnValueStringIgnoresGrouping", fn := fun _ => fun
  | [d] => { results := [.lit (.bool true)], args := [d] }
  | _ => none }
def fnValueStringIgnoresGroupingRow : OpenClaim := { program := "qxb6600249a", sum := "92267a8ca1eae5c3ca387dee035d79d427c7cff166aff4805d3b1d17611637ce", func := "example.com/holdfast/holdfast/zzlaws_internal_expand_b1.FnValueStringIgnoresGrouping", spec := "fnValueStringIgnoresGrouping", inPlace := ["internal/bytealg.IndexByteString", "internal/abi.NoEscape", "internal/bytealg.MakeNoZero"], apart := false }
def FnValueStringIgnoresGroupingSaid : Prop := fnValueStringIgnoresGroupingRow.holds Try.pinned (OpenSpec.ofChange fnValueStringIgnoresGroupingSpec)

/-- ITS FALSE NEIGHBOUR: 'it returns false'. Refute it at one input. -/
def fnValueStringIgnoresGroupingWrong : ChangeSpec := { name := "fnValueStringIgnoresGrouping", fn := fun _ => fun
  | [d] => { results := [.lit (.bool false)], args := [d] }
  | _ => none }
def FnValueStringIgnoresGroupingWrongFalsely : Prop := fnValueStringIgnoresGroupingRow.holds Try.pinned (OpenSpec.ofChange fnValueStringIgnoresGroupingWrong)

/-- 'zzlaws_internal_expand_b1.FnValidNameMatchesDFA': WHATEVER THE INPUT: true; the input reads as it did. -/
def fnValidNameMatchesDFASpec : ChangeSpec := { name := "fnValidNameMatchesDFA", fn := fun _ => fun
  | [d] => { results := [.lit (.bool true)], args := [d] }
  | _ => none }
def fnValidNameMatchesDFARow : OpenClaim := { program := "qxb6600249a", sum := "92267a8ca1eae5c3ca387dee035d79d427c7cff166aff4805d3b1d17611637ce", func := "example.com/holdfast/holdfast/zzlaws_internal_expand_b1.FnValidNameMatchesDFA", spec := "fnValidNameMatchesDFA", apart := false }
def FnValidNameMatchesDFASaid : Prop := fnValidNameMatchesDFARow.holds Try.pinned (OpenSpec.ofChange fnValidNameMatchesDFASpec)

/-- ITS FALSE NEIGHBOUR: 'it returns false'. Refute it at one input. -/
def fnValidNameMatchesDFAWrong : ChangeSpec := { name := "fnValidNameMatchesDFA", fn := fun _ => fun
  | [d] => { results := [.lit (.bool false)], args := [d] }
  | _ => none }
def FnValidNameMatchesDFAWrongFalsely : Prop := fnValidNameMatchesDFARow.holds Try.pinned (OpenSpec.ofChange fnValidNameMatchesDFAWrong)

/-- 'zzlaws_internal_expand_b1.FnValidNameExtendsByBody': WHATEVER THE INPUT: true; the input reads as it did. -/
def fnValidNameExtendsByBodySpec : ChangeSpec := { name := "fnValidNameExtendsByBody", fn := fun _ => fun
  | [d1, d2] => { results := [.lit (.bool true)], args := [d1, d2] }
  | _ => none }
def fnValidNameExtendsByBodyRow : OpenClaim := { program := "qxb6600249a", sum := "92267a8ca1eae5c3ca387dee035d79d427c7cff166aff4805d3b1d17611637ce", func := "example.com/holdfast/holdfast/zzlaws_internal_expand_b1.FnValidNameExtendsByBody", spec := "fnValidNameExtendsByBody", apart := false }
def FnValidNameExtendsByBodySaid : Prop := fnValidNameExtendsByBodyRow.holds Try.pinned (OpenSpec.ofChange fnValidNameExtendsByBodySpec)

/-- ITS FALSE NEIGHBOUR: 'it returns false'. Refute it at one input. -/
def fnValidNameExtendsByBodyWrong : ChangeSpec := { name := "fnValidNameExtendsByBody", fn := fun _ => fun
  | [d1, d2] => { results := [.lit (.bool false)], args := [d1, d2] }
  | _ => none }
def FnValidNameExtendsByBodyWrongFalsely : Prop := fnValidNameExtendsByBodyRow.holds Try.pinned (OpenSpec.ofChange fnValidNameExtendsByBodyWrong)

/-- 'zzlaws_internal_expand_b1.FnValidNamePrefixClosed': WHATEVER THE INPUT: true; the input reads as it did. -/
def fnValidNamePrefixClosedSpec : ChangeSpec := { name := "fnValidNamePrefixClosed", fn := fun _ => fun
  | [d1, d2] => { results := [.lit (.bool true)], args := [d1, d2] }
  | _ => none }
def fnValidNamePrefixClosedRow : OpenClaim := { program := "qxb6600249a", sum := "92267a8ca1eae5c3ca387dee035d79d427c7cff166aff4805d3b1d17611637ce", func := "example.com/holdfast/holdfast/zzlaws_internal_expand_b1.FnValidNamePrefixClosed", spec := "fnValidNamePrefixClosed", apart := false }
def FnValidNamePrefixClosedSaid : Prop := fnValidNamePrefixClosedRow.holds Try.pinned (OpenSpec.ofChange fnValidNamePrefixClosedSpec)

/-- ITS FALSE NEIGHBOUR: 'it returns false'. Refute it at one input. -/
def fnValidNamePrefixClosedWrong : ChangeSpec := { name := "fnValidNamePrefixClosed", fn := fun _ => fun
  | [d1, d2] => { results := [.lit (.bool false)], args := [d1, d2] }
  | _ => none }
def FnValidNamePrefixClosedWrongFalsely : Prop := fnValidNamePrefixClosedRow.holds Try.pinned (OpenSpec.ofChange fnValidNamePrefixClosedWrong)

/-- 'zzlaws_internal_expand_b1.FnReserveChainWalksBack': WHATEVER THE INPUT: true; the input reads as it did. -/
def fnReserveChainWalksBackSpec : ChangeSpec := { name := "fnReserveChainWalksBack", fn := fun _ => fun
  | [d1, d2, d3] => { results := [.lit (.bool true)], args := [d1, d2, d3] }
  | _ => none }
def fnReserveChainWalksBackRow : OpenClaim := { program := "qxb6600249a", sum := "92267a8ca1eae5c3ca387dee035d79d427c7cff166aff4805d3b1d17611637ce", func := "example.com/holdfast/holdfast/zzlaws_internal_expand_b1.FnReserveChainWalksBack", spec := "fnReserveChainWalksBack", inPlace := ["internal/bytealg.IndexByteString", "internal/abi.NoEscape", "internal/bytealg.MakeNoZero"], apart := false }
def FnReserveChainWalksBackSaid : Prop := fnReserveChainWalksBackRow.holds Try.pinned (OpenSpec.ofChange fnReserveChainWalksBackSpec)

/-- ITS FALSE NEIGHBOUR: 'it returns false'. Refute it at one input. -/
def fnReserveChainWalksBackWrong : ChangeSpec := { name := "fnReserveChainWalksBack", fn := fun _ => fun
  | [d1, d2, d3] => { results := [.lit (.bool false)], args := [d1, d2, d3] }
  | _ => none }
def FnReserveChainWalksBackWrongFalsely : Prop := fnReserveChainWalksBackRow.holds Try.pinned (OpenSpec.ofChange fnReserveChainWalksBackWrong)

end Rows
end Go.Proofs.Qxb6600249a
