/-
  No cell of these rows narrows 'for every input' (looked for: loops, veiled, ifaces, maps, wideKeys, modest, calm, conditions, laid).
  DERIVED. THE GIVEN ROWS OF THIS SEAT. 6 by the template 'for every input the law returns true; each argument reads behind the call as it read before'; 0 by the template 'total and deterministic' (their statements: Qxb6618184aTotals.lean).
  GIVEN WITH THE SEED: the statements are not yours to turn. If you find one false, say at which input.
  Laid BY PROGRAM, IN A SANDBOX (cutbox-rows.mjs): the forced cells as the released guide's own fill.sh prints them over the translation 81274cf3f6174639… (all of the seat's roots in one cut). By AI agents, Wed Nov 11 2026. No macro, syntax, notation, axiom, sorry.
-/
import Derived.Test.Qxb6618184aChecked
import GoSem.Claim
import GoSem.ClaimJoined
import GoSem.ClaimMapViews
import Derived.JoinedTies
import Derived.KernelRfl
namespace Go.Proofs.Qxb6618184a
/- THE CELL 'sum', in the pinned program and in every row, IS THE sha256 OF THE DUMP (.gsa) THAT Qxb6618184aProg.lean LOADS. Nothing in Lean hashes anything: it is a label: what it is worth is what the hold of that sum in a sandbox is worth. -/
noncomputable def Try.pinned : Pinned := { name := "qxb6618184a", sum := "81274cf3f617463934b8008ebed0353ff7715f51c3011d6b56f5f6a613f865e5", checked := Try.checked }
namespace Rows
def none {H : Type} : Left H := { results := [], args := [] }

/-- 'zzlaws_postgres_b1.FnBlockCommentEndMatchesNesting': WHATEVER THE INPUT: true; the input reads as it did. -/
def fnBlockCommentEndMatchesNestingSpec : ChangeSpec := { name := "fnBlockCommentEndMatchesNesting", fn := fun _ => fun
  | [d1, d2] => { results := [.lit (.bool true)], args := [d1, d2] }
  | _ => none }
def fnBlockCommentEndMatchesNestingRow : OpenClaim := { program := "qxb6618184a", sum := "81274cf3f617463934b8008ebed0353ff7715f51c3011d6b56f5f6a613f865e5", func := "example.com/glass-trail/glass-trail/zzlaws_postgres_b1.FnBlockCommentEndMatchesNesting", spec := "fnBlockCommentEndMatchesNesting", recurses := true, apart := false }
def FnBlockCommentEndMatchesNestingSaid : Prop := fnBlockCommentEndMatchesNestingRow.holds Try.pinned (OpenSpec.ofChange fnBlockCommentEndMatchesNestingSpec)

/-- ITS FALSE NEIGHBOUR: 'it returns false'. Refute it at one input. -/
def fnBlockCommentEndMatchesNestingWrong : ChangeSpec := { name := "fnBlockCommentEndMatchesNesting", fn := fun _ => fun
  | [d1, d2] => { results := [.lit (.bool false)], args := [d1, d2] }
  | _ => none }
def FnBlockCommentEndMatchesNestingWrongFalsely : Prop := fnBlockCommentEndMatchesNestingRow.holds Try.pinned (OpenSpec.ofChange fnBlockCommentEndMatchesNestingWrong)

/-- 'zzlaws_postgres_b1.FnBlockCommentEndNestedBuilt': WHATEVER THE INPUT: true; the input reads as it did. -/
def fnBlockCommentEndNestedBuiltSpec : ChangeSpec := { name := "fnBlockCommentEndNestedBuilt", fn := fun _ => fun
  | [d1, d2, d3, d4, d5] => { results := [.lit (.bool true)], args := [d1, d2, d3, d4, d5] }
  | _ => none }
def fnBlockCommentEndNestedBuiltRow : OpenClaim := { program := "qxb6618184a", sum := "81274cf3f617463934b8008ebed0353ff7715f51c3011d6b56f5f6a613f865e5", func := "example.com/glass-trail/glass-trail/zzlaws_postgres_b1.FnBlockCommentEndNestedBuilt", spec := "fnBlockCommentEndNestedBuilt", apart := false }
def FnBlockCommentEndNestedBuiltSaid : Prop := fnBlockCommentEndNestedBuiltRow.holds Try.pinned (OpenSpec.ofChange fnBlockCommentEndNestedBuiltSpec)

/-- ITS FALSE NEIGHBOUR: 'it returns false'. Refute it at one input. -/
def fnBlockCommentEndNestedBuiltWrong : ChangeSpec := { name := "fnBlockCommentEndNestedBuilt", fn := fun _ => fun
  | [d1, d2, d3, d4, d5] => { results := [.lit (.bool false)], args := [d1, d2, d3, d4, d5] }
  | _ => none }
def FnBlockCommentEndNestedBuiltWrongFalsely : Prop := fnBlockCommentEndNestedBuiltRow.holds Try.pinned (OpenSpec.ofChange fnBlockCommentEndNestedBuiltWrong)

/-- 'zzlaws_postgres_b1.FnContinuedAtMatchesAutomaton': WHATEVER THE INPUT: true; the input reads as it did. -/
def fnContinuedAtMatchesAutomatonSpec : ChangeSpec := { name := "fnContinuedAtMatchesAutomaton", fn := fun _ => fun
  | [d1, d2] => { results := [.lit (.bool true)], args := [d1, d2] }
  | _ => none }
def fnContinuedAtMatchesAutomatonRow : OpenClaim := { program := "qxb6618184a", sum := "81274cf3f617463934b8008ebed0353ff7715f51c3011d6b56f5f6a613f865e5", func := "example.com/glass-trail/glass-trail/zzlaws_postgres_b1.FnContinuedAtMatchesAutomaton", spec := "fnContinuedAtMatchesAutomaton", inPlace := ["internal/bytealg.IndexByteString", "internal/bytealg.IndexString"], named := ["internal/bytealg.MaxLen"], apart := false }
def FnContinuedAtMatchesAutomatonSaid : Prop := fnContinuedAtMatchesAutomatonRow.holds Try.pinned (OpenSpec.ofChange fnContinuedAtMatchesAutomatonSpec)

/-- ITS FALSE NEIGHBOUR: 'it returns false'. Refute it at one input. -/
def fnContinuedAtMatchesAutomatonWrong : ChangeSpec := { name := "fnContinuedAtMatchesAutomaton", fn := fun _ => fun
  | [d1, d2] => { results := [.lit (.bool false)], args := [d1, d2] }
  | _ => none }
def FnContinuedAtMatchesAutomatonWrongFalsely : Prop := fnContinuedAtMatchesAutomatonRow.holds Try.pinned (OpenSpec.ofChange fnContinuedAtMatchesAutomatonWrong)

/-- 'zzlaws_postgres_b1.FnContinuedAtBuiltGap': WHATEVER THE INPUT: true; the input reads as it did. -/
def fnContinuedAtBuiltGapSpec : ChangeSpec := { name := "fnContinuedAtBuiltGap", fn := fun _ => fun
  | [d1, d2, d3, d4, d5, d6] => { results := [.lit (.bool true)], args := [d1, d2, d3, d4, d5, d6] }
  | _ => none }
def fnContinuedAtBuiltGapRow : OpenClaim := { program := "qxb6618184a", sum := "81274cf3f617463934b8008ebed0353ff7715f51c3011d6b56f5f6a613f865e5", func := "example.com/glass-trail/glass-trail/zzlaws_postgres_b1.FnContinuedAtBuiltGap", spec := "fnContinuedAtBuiltGap", inPlace := ["internal/bytealg.IndexByteString", "internal/bytealg.IndexString"], named := ["internal/bytealg.MaxLen"], apart := false }
def FnContinuedAtBuiltGapSaid : Prop := fnContinuedAtBuiltGapRow.holds Try.pinned (OpenSpec.ofChange fnContinuedAtBuiltGapSpec)

/-- ITS FALSE NEIGHBOUR: 'it returns false'. Refute it at one input. -/
def fnContinuedAtBuiltGapWrong : ChangeSpec := { name := "fnContinuedAtBuiltGap", fn := fun _ => fun
  | [d1, d2, d3, d4, d5, d6] => { results := [.lit (.bool false)], args := [d1, d2, d3, d4, d5, d6] }
  | _ => none }
def FnContinuedAtBuiltGapWrongFalsely : Prop := fnContinuedAtBuiltGapRow.holds Try.pinned (OpenSpec.ofChange fnContinuedAtBuiltGapWrong)

/-- 'zzlaws_postgres_b1.FnQuotedEndMatchesAutomaton': WHATEVER THE INPUT: true; the input reads as it did. -/
def fnQuotedEndMatchesAutomatonSpec : ChangeSpec := { name := "fnQuotedEndMatchesAutomaton", fn := fun _ => fun
  | [d1, d2, d3] => { results := [.lit (.bool true)], args := [d1, d2, d3] }
  | _ => none }
def fnQuotedEndMatchesAutomatonRow : OpenClaim := { program := "qxb6618184a", sum := "81274cf3f617463934b8008ebed0353ff7715f51c3011d6b56f5f6a613f865e5", func := "example.com/glass-trail/glass-trail/zzlaws_postgres_b1.FnQuotedEndMatchesAutomaton", spec := "fnQuotedEndMatchesAutomaton", inPlace := ["internal/bytealg.IndexByteString", "internal/bytealg.IndexString"], named := ["internal/bytealg.MaxLen"], apart := false }
def FnQuotedEndMatchesAutomatonSaid : Prop := fnQuotedEndMatchesAutomatonRow.holds Try.pinned (OpenSpec.ofChange fnQuotedEndMatchesAutomatonSpec)

/-- ITS FALSE NEIGHBOUR: 'it returns false'. Refute it at one input. -/
def fnQuotedEndMatchesAutomatonWrong : ChangeSpec := { name := "fnQuotedEndMatchesAutomaton", fn := fun _ => fun
  | [d1, d2, d3] => { results := [.lit (.bool false)], args := [d1, d2, d3] }
  | _ => none }
def FnQuotedEndMatchesAutomatonWrongFalsely : Prop := fnQuotedEndMatchesAutomatonRow.holds Try.pinned (OpenSpec.ofChange fnQuotedEndMatchesAutomatonWrong)

/-- 'zzlaws_postgres_b1.FnQuotedEndFindsQuotedText': WHATEVER THE INPUT: true; the input reads as it did. -/
def fnQuotedEndFindsQuotedTextSpec : ChangeSpec := { name := "fnQuotedEndFindsQuotedText", fn := fun _ => fun
  | [d1, d2, d3, d4] => { results := [.lit (.bool true)], args := [d1, d2, d3, d4] }
  | _ => none }
def fnQuotedEndFindsQuotedTextRow : OpenClaim := { program := "qxb6618184a", sum := "81274cf3f617463934b8008ebed0353ff7715f51c3011d6b56f5f6a613f865e5", func := "example.com/glass-trail/glass-trail/zzlaws_postgres_b1.FnQuotedEndFindsQuotedText", spec := "fnQuotedEndFindsQuotedText", inPlace := ["internal/bytealg.IndexByteString", "internal/bytealg.IndexString"], named := ["internal/bytealg.MaxLen"], apart := false }
def FnQuotedEndFindsQuotedTextSaid : Prop := fnQuotedEndFindsQuotedTextRow.holds Try.pinned (OpenSpec.ofChange fnQuotedEndFindsQuotedTextSpec)

/-- ITS FALSE NEIGHBOUR: 'it returns false'. Refute it at one input. -/
def fnQuotedEndFindsQuotedTextWrong : ChangeSpec := { name := "fnQuotedEndFindsQuotedText", fn := fun _ => fun
  | [d1, d2, d3, d4] => { results := [.lit (.bool false)], args := [d1, d2, d3, d4] }
  | _ => none }
def FnQuotedEndFindsQuotedTextWrongFalsely : Prop := fnQuotedEndFindsQuotedTextRow.holds Try.pinned (OpenSpec.ofChange fnQuotedEndFindsQuotedTextWrong)

end Rows
end Go.Proofs.Qxb6618184a
