/-
  No cell of these rows narrows 'for every input' (looked for: loops, veiled, ifaces, maps, wideKeys, modest, calm, conditions, laid).
  DERIVED. THE GIVEN ROWS OF THIS SEAT. 5 by the template 'for every input the law returns true; each argument reads behind the call as it read before'; 0 by the template 'total and deterministic' (their statements: Qxb6618057aTotals.lean).
  GIVEN WITH THE SEED: the statements are not yours to turn. If you find one false, say at which input.
  Laid BY PROGRAM, IN A SANDBOX (cutbox-rows.mjs): the forced cells as the released guide's own fill.sh prints them over the translation 9f726d4af525c03e… (all of the seat's roots in one cut). By AI agents, Wed Nov 11 2026. No macro, syntax, notation, axiom, sorry.
-/
import Derived.Test.Qxb6618057aChecked
import GoSem.Claim
import GoSem.ClaimJoined
import GoSem.ClaimMapViews
import Derived.JoinedTies
import Derived.KernelRfl
namespace Go.Proofs.Qxb6618057a
/- THE CELL 'sum', in the pinned program and in every row, IS THE sha256 OF THE DUMP (.gsa) THAT Qxb6618057aProg.lean LOADS. Nothing in Lean hashes anything: it is a label: what it is worth is what the hold of that sum in a sandbox is worth. -/
noncomputable def Try.pinned : Pinned := { name := "qxb6618057a", sum := "9f726d4af525c03e1c48cd2097a4b928c48721767500b9914e4ad58e3ceb2e6c", checked := Try.checked }
namespace Rows
def none {H : Type} : Left H := { results := [], args := [] }

/-- 'zzlaws_internal_yamlevents_b1.FnStartsWithCutAndFill': WHATEVER THE INPUT: true; the input reads as it did. -/
def fnStartsWithCutAndFillSpec : ChangeSpec := { name := "fnStartsWithCutAndFill", fn := fun _ => fun
  | [d1, d2, d3] => { results := [.lit (.bool true)], args := [d1, d2, d3] }
  | _ => none }
def fnStartsWithCutAndFillRow : OpenClaim := { program := "qxb6618057a", sum := "9f726d4af525c03e1c48cd2097a4b928c48721767500b9914e4ad58e3ceb2e6c", func := "example.com/impartial-grants/impartial-grants/zzlaws_internal_yamlevents_b1.FnStartsWithCutAndFill", spec := "fnStartsWithCutAndFill", apart := false }
def FnStartsWithCutAndFillSaid : Prop := fnStartsWithCutAndFillRow.holds Try.pinned (OpenSpec.ofChange fnStartsWithCutAndFillSpec)

/-- ITS FALSE NEIGHBOUR: 'it returns false'. Refute it at one input. -/
def fnStartsWithCutAndFillWrong : ChangeSpec := { name := "fnStartsWithCutAndFill", fn := fun _ => fun
  | [d1, d2, d3] => { results := [.lit (.bool false)], args := [d1, d2, d3] }
  | _ => none }
def FnStartsWithCutAndFillWrongFalsely : Prop := fnStartsWithCutAndFillRow.holds Try.pinned (OpenSpec.ofChange fnStartsWithCutAndFillWrong)

/-- 'zzlaws_internal_yamlevents_b1.FnStartsWithWildcardAt': WHATEVER THE INPUT: true; the input reads as it did. -/
def fnStartsWithWildcardAtSpec : ChangeSpec := { name := "fnStartsWithWildcardAt", fn := fun _ => fun
  | [d1, d2, d3] => { results := [.lit (.bool true)], args := [d1, d2, d3] }
  | _ => none }
def fnStartsWithWildcardAtRow : OpenClaim := { program := "qxb6618057a", sum := "9f726d4af525c03e1c48cd2097a4b928c48721767500b9914e4ad58e3ceb2e6c", func := "example.com/impartial-grants/impartial-grants/zzlaws_internal_yamlevents_b1.FnStartsWithWildcardAt", spec := "fnStartsWithWildcardAt", apart := false }
def FnStartsWithWildcardAtSaid : Prop := fnStartsWithWildcardAtRow.holds Try.pinned (OpenSpec.ofChange fnStartsWithWildcardAtSpec)

/-- ITS FALSE NEIGHBOUR: 'it returns false'. Refute it at one input. -/
def fnStartsWithWildcardAtWrong : ChangeSpec := { name := "fnStartsWithWildcardAt", fn := fun _ => fun
  | [d1, d2, d3] => { results := [.lit (.bool false)], args := [d1, d2, d3] }
  | _ => none }
def FnStartsWithWildcardAtWrongFalsely : Prop := fnStartsWithWildcardAtRow.holds Try.pinned (OpenSpec.ofChange fnStartsWithWildcardAtWrong)

/-- 'zzlaws_internal_yamlevents_b1.FnAllowedCountWindow': WHATEVER THE INPUT: true; the input reads as it did. -/
def fnAllowedCountWindowSpec : ChangeSpec := { name := "fnAllowedCountWindow", fn := fun _ => fun
  | [d1, d2] => { results := [.lit (.bool true)], args := [d1, d2] }
  | _ => none }
def fnAllowedCountWindowRow : OpenClaim := { program := "qxb6618057a", sum := "9f726d4af525c03e1c48cd2097a4b928c48721767500b9914e4ad58e3ceb2e6c", func := "example.com/impartial-grants/impartial-grants/zzlaws_internal_yamlevents_b1.FnAllowedCountWindow", spec := "fnAllowedCountWindow", apart := false }
def FnAllowedCountWindowSaid : Prop := fnAllowedCountWindowRow.holds Try.pinned (OpenSpec.ofChange fnAllowedCountWindowSpec)

/-- ITS FALSE NEIGHBOUR: 'it returns false'. Refute it at one input. -/
def fnAllowedCountWindowWrong : ChangeSpec := { name := "fnAllowedCountWindow", fn := fun _ => fun
  | [d1, d2] => { results := [.lit (.bool false)], args := [d1, d2] }
  | _ => none }
def FnAllowedCountWindowWrongFalsely : Prop := fnAllowedCountWindowRow.holds Try.pinned (OpenSpec.ofChange fnAllowedCountWindowWrong)

/-- 'zzlaws_internal_yamlevents_b1.FnAllowedSurrogateHalvesRefused': WHATEVER THE INPUT: true; the input reads as it did. -/
def fnAllowedSurrogateHalvesRefusedSpec : ChangeSpec := { name := "fnAllowedSurrogateHalvesRefused", fn := fun _ => fun
  | [d] => { results := [.lit (.bool true)], args := [d] }
  | _ => none }
def fnAllowedSurrogateHalvesRefusedRow : OpenClaim := { program := "qxb6618057a", sum := "9f726d4af525c03e1c48cd2097a4b928c48721767500b9914e4ad58e3ceb2e6c", func := "example.com/impartial-grants/impartial-grants/zzlaws_internal_yamlevents_b1.FnAllowedSurrogateHalvesRefused", spec := "fnAllowedSurrogateHalvesRefused", apart := false }
def FnAllowedSurrogateHalvesRefusedSaid : Prop := fnAllowedSurrogateHalvesRefusedRow.holds Try.pinned (OpenSpec.ofChange fnAllowedSurrogateHalvesRefusedSpec)

/-- ITS FALSE NEIGHBOUR: 'it returns false'. Refute it at one input. -/
def fnAllowedSurrogateHalvesRefusedWrong : ChangeSpec := { name := "fnAllowedSurrogateHalvesRefused", fn := fun _ => fun
  | [d] => { results := [.lit (.bool false)], args := [d] }
  | _ => none }
def FnAllowedSurrogateHalvesRefusedWrongFalsely : Prop := fnAllowedSurrogateHalvesRefusedRow.holds Try.pinned (OpenSpec.ofChange fnAllowedSurrogateHalvesRefusedWrong)

/-- 'zzlaws_internal_yamlevents_b1.FnDescribeReadsAlikeExactlyWithinAMeaning': WHATEVER THE INPUT: true; the input reads as it did. -/
def fnDescribeReadsAlikeExactlyWithinAMeaningSpec : ChangeSpec := { name := "fnDescribeReadsAlikeExactlyWithinAMeaning", fn := fun _ => fun
  | [d1, d2] => { results := [.lit (.bool true)], args := [d1, d2] }
  | _ => none }
def fnDescribeReadsAlikeExactlyWithinAMeaningRow : OpenClaim := { program := "qxb6618057a", sum := "9f726d4af525c03e1c48cd2097a4b928c48721767500b9914e4ad58e3ceb2e6c", func := "example.com/impartial-grants/impartial-grants/zzlaws_internal_yamlevents_b1.FnDescribeReadsAlikeExactlyWithinAMeaning", spec := "fnDescribeReadsAlikeExactlyWithinAMeaning", apart := false }
def FnDescribeReadsAlikeExactlyWithinAMeaningSaid : Prop := fnDescribeReadsAlikeExactlyWithinAMeaningRow.holds Try.pinned (OpenSpec.ofChange fnDescribeReadsAlikeExactlyWithinAMeaningSpec)

/-- ITS FALSE NEIGHBOUR: 'it returns false'. Refute it at one input. -/
def fnDescribeReadsAlikeExactlyWithinAMeaningWrong : ChangeSpec := { name := "fnDescribeReadsAlikeExactlyWithinAMeaning", fn := fun _ => fun
  | [d1, d2] => { results := [.lit (.bool false)], args := [d1, d2] }
  | _ => none }
def FnDescribeReadsAlikeExactlyWithinAMeaningWrongFalsely : Prop := fnDescribeReadsAlikeExactlyWithinAMeaningRow.holds Try.pinned (OpenSpec.ofChange fnDescribeReadsAlikeExactlyWithinAMeaningWrong)

end Rows
end Go.Proofs.Qxb6618057a
