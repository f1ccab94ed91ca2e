/-
  No cell of these rows narrows 'for every input' (looked for: loops, veiled, ifaces, maps, wideKeys, modest, calm, conditions, laid).
  DERIVED. THE GIVEN ROWS OF THIS SEAT. 5 by the template 'for every input the law returns true; each argument reads behind the call as it read before'; 0 by the template 'total and deterministic' (their statements: Qxb6616563aTotals.lean).
  GIVEN WITH THE SEED: the statements are not yours to turn. If you find one false, say at which input.
  Laid BY PROGRAM, IN A SANDBOX (cutbox-rows.mjs): the forced cells as the released guide's own fill.sh prints them over the translation 28adc5661296bb0f… (all of the seat's roots in one cut). By AI agents, Wed Nov 11 2026. No macro, syntax, notation, axiom, sorry.
-/
import Derived.Test.Qxb6616563aChecked
import GoSem.Claim
import GoSem.ClaimJoined
import GoSem.ClaimMapViews
import Derived.JoinedTies
import Derived.KernelRfl
namespace Go.Proofs.Qxb6616563a
/- THE CELL 'sum', in the pinned program and in every row, IS THE sha256 OF THE DUMP (.gsa) THAT Qxb6616563aProg.lean LOADS. Nothing in Lean hashes anything: it is a label: what it is worth is what the hold of that sum in a sandbox is worth. -/
noncomputable def Try.pinned : Pinned := { name := "qxb6616563a", sum := "28adc5661296bb0fb2755d30c5f46657bf624a6d85d6e7fc9b5ec23a0f035be8", checked := Try.checked }
namespace Rows
def none {H : Type} : Left H := { results := [], args := [] }

/-- 'zzlaws_internal_clause_b1.FnComparisonExplainSwapRoundTrip': WHATEVER THE INPUT: true; the input reads as it did. -/
def fnComparisonExplainSwapRoundTripSpec : ChangeSpec := { name := "fnComparisonExplainSwapRoundTrip", fn := fun _ => fun
  | [d1, d2, d3, d4, d5, d6, d7, d8, d9] => { results := [.lit (.bool true)], args := [d1, d2, d3, d4, d5, d6, d7, d8, d9] }
  | _ => none }
def fnComparisonExplainSwapRoundTripRow : OpenClaim := { program := "qxb6616563a", sum := "28adc5661296bb0fb2755d30c5f46657bf624a6d85d6e7fc9b5ec23a0f035be8", func := "example.com/riddlecart/riddlecart/zzlaws_internal_clause_b1.FnComparisonExplainSwapRoundTrip", spec := "fnComparisonExplainSwapRoundTrip", apart := false }
def FnComparisonExplainSwapRoundTripSaid : Prop := fnComparisonExplainSwapRoundTripRow.holds Try.pinned (OpenSpec.ofChange fnComparisonExplainSwapRoundTripSpec)

/-- ITS FALSE NEIGHBOUR: 'it returns false'. Refute it at one input. -/
def fnComparisonExplainSwapRoundTripWrong : ChangeSpec := { name := "fnComparisonExplainSwapRoundTrip", fn := fun _ => fun
  | [d1, d2, d3, d4, d5, d6, d7, d8, d9] => { results := [.lit (.bool false)], args := [d1, d2, d3, d4, d5, d6, d7, d8, d9] }
  | _ => none }
def FnComparisonExplainSwapRoundTripWrongFalsely : Prop := fnComparisonExplainSwapRoundTripRow.holds Try.pinned (OpenSpec.ofChange fnComparisonExplainSwapRoundTripWrong)

/-- 'zzlaws_internal_clause_b1.FnOperandHasOwnValueInsertedAnywhere': WHATEVER THE INPUT: true; the input reads as it did. -/
def fnOperandHasOwnValueInsertedAnywhereSpec : ChangeSpec := { name := "fnOperandHasOwnValueInsertedAnywhere", fn := fun _ => fun
  | [d1, d2, d3, d4, d5, d6, d7, d8, d9, d10] => { results := [.lit (.bool true)], args := [d1, d2, d3, d4, d5, d6, d7, d8, d9, d10] }
  | _ => none }
def fnOperandHasOwnValueInsertedAnywhereRow : OpenClaim := { program := "qxb6616563a", sum := "28adc5661296bb0fb2755d30c5f46657bf624a6d85d6e7fc9b5ec23a0f035be8", func := "example.com/riddlecart/riddlecart/zzlaws_internal_clause_b1.FnOperandHasOwnValueInsertedAnywhere", spec := "fnOperandHasOwnValueInsertedAnywhere", inPlace := ["internal/bytealg.Compare"], apart := false }
def FnOperandHasOwnValueInsertedAnywhereSaid : Prop := fnOperandHasOwnValueInsertedAnywhereRow.holds Try.pinned (OpenSpec.ofChange fnOperandHasOwnValueInsertedAnywhereSpec)

/-- ITS FALSE NEIGHBOUR: 'it returns false'. Refute it at one input. -/
def fnOperandHasOwnValueInsertedAnywhereWrong : ChangeSpec := { name := "fnOperandHasOwnValueInsertedAnywhere", fn := fun _ => fun
  | [d1, d2, d3, d4, d5, d6, d7, d8, d9, d10] => { results := [.lit (.bool false)], args := [d1, d2, d3, d4, d5, d6, d7, d8, d9, d10] }
  | _ => none }
def FnOperandHasOwnValueInsertedAnywhereWrongFalsely : Prop := fnOperandHasOwnValueInsertedAnywhereRow.holds Try.pinned (OpenSpec.ofChange fnOperandHasOwnValueInsertedAnywhereWrong)

/-- 'zzlaws_internal_clause_b1.FnNumberZeroIffAllDigitsZero': WHATEVER THE INPUT: true; the input reads as it did. -/
def fnNumberZeroIffAllDigitsZeroSpec : ChangeSpec := { name := "fnNumberZeroIffAllDigitsZero", fn := fun _ => fun
  | [d] => { results := [.lit (.bool true)], args := [d] }
  | _ => none }
def fnNumberZeroIffAllDigitsZeroRow : OpenClaim := { program := "qxb6616563a", sum := "28adc5661296bb0fb2755d30c5f46657bf624a6d85d6e7fc9b5ec23a0f035be8", func := "example.com/riddlecart/riddlecart/zzlaws_internal_clause_b1.FnNumberZeroIffAllDigitsZero", spec := "fnNumberZeroIffAllDigitsZero", apart := false }
def FnNumberZeroIffAllDigitsZeroSaid : Prop := fnNumberZeroIffAllDigitsZeroRow.holds Try.pinned (OpenSpec.ofChange fnNumberZeroIffAllDigitsZeroSpec)

/-- ITS FALSE NEIGHBOUR: 'it returns false'. Refute it at one input. -/
def fnNumberZeroIffAllDigitsZeroWrong : ChangeSpec := { name := "fnNumberZeroIffAllDigitsZero", fn := fun _ => fun
  | [d] => { results := [.lit (.bool false)], args := [d] }
  | _ => none }
def FnNumberZeroIffAllDigitsZeroWrongFalsely : Prop := fnNumberZeroIffAllDigitsZeroRow.holds Try.pinned (OpenSpec.ofChange fnNumberZeroIffAllDigitsZeroWrong)

/-- 'zzlaws_internal_clause_b1.FnNumberZeroIffEqualsOwnNegation': WHATEVER THE INPUT: true; the input reads as it did. -/
def fnNumberZeroIffEqualsOwnNegationSpec : ChangeSpec := { name := "fnNumberZeroIffEqualsOwnNegation", fn := fun _ => fun
  | [d] => { results := [.lit (.bool true)], args := [d] }
  | _ => none }
def fnNumberZeroIffEqualsOwnNegationRow : OpenClaim := { program := "qxb6616563a", sum := "28adc5661296bb0fb2755d30c5f46657bf624a6d85d6e7fc9b5ec23a0f035be8", func := "example.com/riddlecart/riddlecart/zzlaws_internal_clause_b1.FnNumberZeroIffEqualsOwnNegation", spec := "fnNumberZeroIffEqualsOwnNegation", inPlace := ["internal/bytealg.Compare"], apart := false }
def FnNumberZeroIffEqualsOwnNegationSaid : Prop := fnNumberZeroIffEqualsOwnNegationRow.holds Try.pinned (OpenSpec.ofChange fnNumberZeroIffEqualsOwnNegationSpec)

/-- ITS FALSE NEIGHBOUR: 'it returns false'. Refute it at one input. -/
def fnNumberZeroIffEqualsOwnNegationWrong : ChangeSpec := { name := "fnNumberZeroIffEqualsOwnNegation", fn := fun _ => fun
  | [d] => { results := [.lit (.bool false)], args := [d] }
  | _ => none }
def FnNumberZeroIffEqualsOwnNegationWrongFalsely : Prop := fnNumberZeroIffEqualsOwnNegationRow.holds Try.pinned (OpenSpec.ofChange fnNumberZeroIffEqualsOwnNegationWrong)

/-- 'zzlaws_internal_clause_b1.FnOperandHasSplitsAtAnyCut': WHATEVER THE INPUT: true; the input reads as it did. -/
def fnOperandHasSplitsAtAnyCutSpec : ChangeSpec := { name := "fnOperandHasSplitsAtAnyCut", fn := fun _ => fun
  | [d1, d2, d3, d4, d5, d6, d7, d8, d9, d10] => { results := [.lit (.bool true)], args := [d1, d2, d3, d4, d5, d6, d7, d8, d9, d10] }
  | _ => none }
def fnOperandHasSplitsAtAnyCutRow : OpenClaim := { program := "qxb6616563a", sum := "28adc5661296bb0fb2755d30c5f46657bf624a6d85d6e7fc9b5ec23a0f035be8", func := "example.com/riddlecart/riddlecart/zzlaws_internal_clause_b1.FnOperandHasSplitsAtAnyCut", spec := "fnOperandHasSplitsAtAnyCut", inPlace := ["internal/bytealg.Compare"], apart := false }
def FnOperandHasSplitsAtAnyCutSaid : Prop := fnOperandHasSplitsAtAnyCutRow.holds Try.pinned (OpenSpec.ofChange fnOperandHasSplitsAtAnyCutSpec)

/-- ITS FALSE NEIGHBOUR: 'it returns false'. Refute it at one input. -/
def fnOperandHasSplitsAtAnyCutWrong : ChangeSpec := { name := "fnOperandHasSplitsAtAnyCut", fn := fun _ => fun
  | [d1, d2, d3, d4, d5, d6, d7, d8, d9, d10] => { results := [.lit (.bool false)], args := [d1, d2, d3, d4, d5, d6, d7, d8, d9, d10] }
  | _ => none }
def FnOperandHasSplitsAtAnyCutWrongFalsely : Prop := fnOperandHasSplitsAtAnyCutRow.holds Try.pinned (OpenSpec.ofChange fnOperandHasSplitsAtAnyCutWrong)

end Rows
end Go.Proofs.Qxb6616563a
