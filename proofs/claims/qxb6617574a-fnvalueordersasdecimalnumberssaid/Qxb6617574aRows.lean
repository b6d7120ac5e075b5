/-
  No cell of these rows narrows 'for every input' (looked for: loops, veiled, ifaces, maps, wideKeys, modest, calm, conditions, laid).
  DERIVED. THE GIVEN ROWS OF THIS SEAT. 2 by the template 'for every input the law returns true; each argument reads behind the call as it read before'; 0 by the template 'total and deterministic' (their statements: Qxb6617574aTotals.lean).
  GIVEN WITH THE SEED: the statements are not yours to turn. If you find one false, say at which input.
  Laid BY PROGRAM, IN A SANDBOX (cutbox-rows.mjs): the forced cells as the released guide's own fill.sh prints them over the translation 41754c615e407e6c… (all of the seat's roots in one cut). By AI agents, Wed Nov 11 2026. No macro, syntax, notation, axiom, sorry.
-/
import Derived.Test.Qxb6617574aChecked
import GoSem.Claim
import GoSem.ClaimJoined
import GoSem.ClaimMapViews
import Derived.JoinedTies
import Derived.KernelRfl
namespace Go.Proofs.Qxb6617574a
/- THE CELL 'sum', in the pinned program and in every row, IS THE sha256 OF THE DUMP (.gsa) THAT Qxb6617574aProg.lean LOADS. Nothing in Lean hashes anything: it is a label: what it is worth is what the hold of that sum in a sandbox is worth. -/
noncomputable def Try.pinned : Pinned := { name := "qxb6617574a", sum := "41754c615e407e6c26e02f6538ab7a3ed1c34f69270702e9013f7bbb0bd5db88", checked := Try.checked }
namespace Rows
def none {H : Type} : Left H := { results := [], args := [] }

/-- 'zzlaws_internal_money_b1.FnValueJoinsAtAnyCutAndIsThePositionalSum': WHATEVER THE INPUT: true; the input reads as it did. -/
def fnValueJoinsAtAnyCutAndIsThePositionalSumSpec : ChangeSpec := { name := "fnValueJoinsAtAnyCutAndIsThePositionalSum", fn := fun _ => fun
  | [d1, d2] => { results := [.lit (.bool true)], args := [d1, d2] }
  | _ => none }
def fnValueJoinsAtAnyCutAndIsThePositionalSumRow : OpenClaim := { program := "qxb6617574a", sum := "41754c615e407e6c26e02f6538ab7a3ed1c34f69270702e9013f7bbb0bd5db88", func := "example.com/tidewatch/tidewatch/zzlaws_internal_money_b1.FnValueJoinsAtAnyCutAndIsThePositionalSum", spec := "fnValueJoinsAtAnyCutAndIsThePositionalSum", apart := false }
def FnValueJoinsAtAnyCutAndIsThePositionalSumSaid : Prop := fnValueJoinsAtAnyCutAndIsThePositionalSumRow.holds Try.pinned (OpenSpec.ofChange fnValueJoinsAtAnyCutAndIsThePositionalSumSpec)

/-- ITS FALSE NEIGHBOUR: 'it returns false'. Refute it at one input. -/
def fnValueJoinsAtAnyCutAndIsThePositionalSumWrong : ChangeSpec := { name := "fnValueJoinsAtAnyCutAndIsThePositionalSum", fn := fun _ => fun
  | [d1, d2] => { results := [.lit (.bool false)], args := [d1, d2] }
  | _ => none }
def FnValueJoinsAtAnyCutAndIsThePositionalSumWrongFalsely : Prop := fnValueJoinsAtAnyCutAndIsThePositionalSumRow.holds Try.pinned (OpenSpec.ofChange fnValueJoinsAtAnyCutAndIsThePositionalSumWrong)

/-- 'zzlaws_internal_money_b1.FnValueOrdersAsDecimalNumbers': WHATEVER THE INPUT: true; the input reads as it did. -/
def fnValueOrdersAsDecimalNumbersSpec : ChangeSpec := { name := "fnValueOrdersAsDecimalNumbers", fn := fun _ => fun
  | [d1, d2] => { results := [.lit (.bool true)], args := [d1, d2] }
  | _ => none }
def fnValueOrdersAsDecimalNumbersRow : OpenClaim := { program := "qxb6617574a", sum := "41754c615e407e6c26e02f6538ab7a3ed1c34f69270702e9013f7bbb0bd5db88", func := "example.com/tidewatch/tidewatch/zzlaws_internal_money_b1.FnValueOrdersAsDecimalNumbers", spec := "fnValueOrdersAsDecimalNumbers", apart := false }
def FnValueOrdersAsDecimalNumbersSaid : Prop := fnValueOrdersAsDecimalNumbersRow.holds Try.pinned (OpenSpec.ofChange fnValueOrdersAsDecimalNumbersSpec)

/-- ITS FALSE NEIGHBOUR: 'it returns false'. Refute it at one input. -/
def fnValueOrdersAsDecimalNumbersWrong : ChangeSpec := { name := "fnValueOrdersAsDecimalNumbers", fn := fun _ => fun
  | [d1, d2] => { results := [.lit (.bool false)], args := [d1, d2] }
  | _ => none }
def FnValueOrdersAsDecimalNumbersWrongFalsely : Prop := fnValueOrdersAsDecimalNumbersRow.holds Try.pinned (OpenSpec.ofChange fnValueOrdersAsDecimalNumbersWrong)

end Rows
end Go.Proofs.Qxb6617574a
