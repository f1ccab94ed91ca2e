/-
  No cell of these rows narrows 'for every input' (looked for: loops, veiled, ifaces, maps, wideKeys, modest, calm, conditions, laid).
  DERIVED. THE GIVEN ROWS OF THIS SEAT. 2 by the template 'for every input the law returns true; each argument reads behind the call as it read before'; 0 by the template 'total and deterministic' (their statements: Qxb6619173aFmtTotals.lean).
  GIVEN WITH THE SEED: the statements are not yours to turn. If you find one false, say at which input.
  Laid BY PROGRAM, IN A SANDBOX (cutbox-rows.mjs): the forced cells as the released guide's own fill.sh prints them over the translation 45064416dfb6ea8b… (all of the seat's roots in one cut). By AI agents, Wed Nov 11 2026. No macro, syntax, notation, axiom, sorry.
-/
import Derived.Test.Qxb6619173aFmtChecked
import GoSem.Claim
import GoSem.ClaimJoined
import GoSem.ClaimMapViews
import Derived.JoinedTies
import Derived.KernelRfl
namespace Go.Proofs.Qxb6619173aFmt
/- THE CELL 'sum', in the pinned program and in every row, IS THE sha256 OF THE DUMP (.gsa) THAT Qxb6619173aFmtProg.lean LOADS. Nothing in Lean hashes anything: it is a label: what it is worth is what the hold of that sum in a sandbox is worth. -/
noncomputable def Tryf.pinned : Pinned := { name := "qxb6619173afmt", sum := "45064416dfb6ea8b0d99c668c2425387209a88a7cc1fe3edc4c340e2305c4adc", checked := Tryf.checked }
namespace Rows
def none {H : Type} : Left H := { results := [], args := [] }

/-- 'zzlaws_chained_e1.FnNewDistinguishesVariants': WHATEVER THE INPUT: true; the input reads as it did. -/
def fnNewDistinguishesVariantsSpec : ChangeSpec := { name := "fnNewDistinguishesVariants", fn := fun _ => fun
  | [d1, d2] => { results := [.lit (.bool true)], args := [d1, d2] }
  | _ => none }
def fnNewDistinguishesVariantsRow : OpenClaim := { program := "qxb6619173afmt", sum := "45064416dfb6ea8b0d99c668c2425387209a88a7cc1fe3edc4c340e2305c4adc", func := "example.com/faultline/faultline/zzlaws_chained_e1.FnNewDistinguishesVariants", spec := "fnNewDistinguishesVariants", stops := ["fmt.errorf"], inPlace := ["fmt.errorf"], apart := false }
/-- NO THEOREM (fmt's text is open here; it may be false): for the released tool's asking of the row's closed facts alone. THE STATEMENT IS 'FnNewDistinguishesVariantsToldSaid' (Qxb6619173aFmtCards.lean). -/
def FnNewDistinguishesVariantsFormAsk : Prop := fnNewDistinguishesVariantsRow.holds Tryf.pinned (OpenSpec.ofChange fnNewDistinguishesVariantsSpec)

/-- ITS FALSE NEIGHBOUR: 'it returns false'. Refute it at one input. -/
def fnNewDistinguishesVariantsWrong : ChangeSpec := { name := "fnNewDistinguishesVariants", fn := fun _ => fun
  | [d1, d2] => { results := [.lit (.bool false)], args := [d1, d2] }
  | _ => none }
def FnNewDistinguishesVariantsWrongFormAsk : Prop := fnNewDistinguishesVariantsRow.holds Tryf.pinned (OpenSpec.ofChange fnNewDistinguishesVariantsWrong)

/-- 'zzlaws_chained_e1.FnNewAcceptsAtMostTheTwoNamedVariants': WHATEVER THE INPUT: true; the input reads as it did. -/
def fnNewAcceptsAtMostTheTwoNamedVariantsSpec : ChangeSpec := { name := "fnNewAcceptsAtMostTheTwoNamedVariants", fn := fun _ => fun
  | [d1, d2, d3] => { results := [.lit (.bool true)], args := [d1, d2, d3] }
  | _ => none }
def fnNewAcceptsAtMostTheTwoNamedVariantsRow : OpenClaim := { program := "qxb6619173afmt", sum := "45064416dfb6ea8b0d99c668c2425387209a88a7cc1fe3edc4c340e2305c4adc", func := "example.com/faultline/faultline/zzlaws_chained_e1.FnNewAcceptsAtMostTheTwoNamedVariants", spec := "fnNewAcceptsAtMostTheTwoNamedVariants", stops := ["fmt.errorf"], inPlace := ["fmt.errorf"], apart := false }
/-- NO THEOREM (fmt's text is open here; it may be false): for the released tool's asking of the row's closed facts alone. THE STATEMENT IS 'FnNewAcceptsAtMostTheTwoNamedVariantsToldSaid' (Qxb6619173aFmtCards.lean). -/
def FnNewAcceptsAtMostTheTwoNamedVariantsFormAsk : Prop := fnNewAcceptsAtMostTheTwoNamedVariantsRow.holds Tryf.pinned (OpenSpec.ofChange fnNewAcceptsAtMostTheTwoNamedVariantsSpec)

/-- ITS FALSE NEIGHBOUR: 'it returns false'. Refute it at one input. -/
def fnNewAcceptsAtMostTheTwoNamedVariantsWrong : ChangeSpec := { name := "fnNewAcceptsAtMostTheTwoNamedVariants", fn := fun _ => fun
  | [d1, d2, d3] => { results := [.lit (.bool false)], args := [d1, d2, d3] }
  | _ => none }
def FnNewAcceptsAtMostTheTwoNamedVariantsWrongFormAsk : Prop := fnNewAcceptsAtMostTheTwoNamedVariantsRow.holds Tryf.pinned (OpenSpec.ofChange fnNewAcceptsAtMostTheTwoNamedVariantsWrong)

end Rows
end Go.Proofs.Qxb6619173aFmt
