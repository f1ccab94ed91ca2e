/-
  No cell of these rows narrows 'for every input' (looked for: loops, veiled, ifaces, maps, wideKeys, modest, calm, conditions, laid).
  DERIVED. THE GIVEN ROWS OF THIS SEAT. 2 by the template 'for every input the law returns true; each argument reads behind the call as it read before'; 0 by the template 'total and deterministic' (their statements: Qxb6616786aFmtTotals.lean).
  GIVEN WITH THE SEED: the statements are not yours to turn. If you find one false, say at which input.
  Laid BY PROGRAM, IN A SANDBOX (cutbox-rows.mjs): the forced cells as the released guide's own fill.sh prints them over the translation 25697b1e8433ffee… (all of the seat's roots in one cut). By AI agents, Wed Nov 11 2026. No macro, syntax, notation, axiom, sorry.
-/
import Derived.Test.Qxb6616786aFmtChecked
import GoSem.Claim
import GoSem.ClaimJoined
import GoSem.ClaimMapViews
import Derived.JoinedTies
import Derived.KernelRfl
namespace Go.Proofs.Qxb6616786aFmt
/- THE CELL 'sum', in the pinned program and in every row, IS THE sha256 OF THE DUMP (.gsa) THAT Qxb6616786aFmtProg.lean LOADS. Nothing in Lean hashes anything: it is a label: what it is worth is what the hold of that sum in a sandbox is worth. -/
noncomputable def Tryf.pinned : Pinned := { name := "qxb6616786afmt", sum := "25697b1e8433ffee45cbd5699adf42e4195959133e42bd9465f8dcf53265ca79", checked := Tryf.checked }
namespace Rows
def none {H : Type} : Left H := { results := [], args := [] }

/-- 'zzlaws_internal_gate_b1.FnReplayCutAnywhere': WHATEVER THE INPUT: true; the input reads as it did. -/
def fnReplayCutAnywhereSpec : ChangeSpec := { name := "fnReplayCutAnywhere", fn := fun _ => fun
  | [d1, d2] => { results := [.lit (.bool true)], args := [d1, d2] }
  | _ => none }
def fnReplayCutAnywhereRow : OpenClaim := { program := "qxb6616786afmt", sum := "25697b1e8433ffee45cbd5699adf42e4195959133e42bd9465f8dcf53265ca79", func := "example.com/bursar/bursar/zzlaws_internal_gate_b1.FnReplayCutAnywhere", spec := "fnReplayCutAnywhere", stops := ["fmt.errorf"], inPlace := ["fmt.errorf"], recurses := true, plainKeys := false, apart := false }
/-- NO THEOREM (fmt's text is open here; it may be false): for the released tool's asking of the row's closed facts alone. THE STATEMENT IS 'FnReplayCutAnywhereToldSaid' (Qxb6616786aFmtCards.lean). -/
def FnReplayCutAnywhereFormAsk : Prop := fnReplayCutAnywhereRow.holds Tryf.pinned (OpenSpec.ofChange fnReplayCutAnywhereSpec)

/-- ITS FALSE NEIGHBOUR: 'it returns false'. Refute it at one input. -/
def fnReplayCutAnywhereWrong : ChangeSpec := { name := "fnReplayCutAnywhere", fn := fun _ => fun
  | [d1, d2] => { results := [.lit (.bool false)], args := [d1, d2] }
  | _ => none }
def FnReplayCutAnywhereWrongFormAsk : Prop := fnReplayCutAnywhereRow.holds Tryf.pinned (OpenSpec.ofChange fnReplayCutAnywhereWrong)

/-- 'zzlaws_internal_gate_b1.FnReplayTwiceChangesNothing': WHATEVER THE INPUT: true; the input reads as it did. -/
def fnReplayTwiceChangesNothingSpec : ChangeSpec := { name := "fnReplayTwiceChangesNothing", fn := fun _ => fun
  | [d] => { results := [.lit (.bool true)], args := [d] }
  | _ => none }
def fnReplayTwiceChangesNothingRow : OpenClaim := { program := "qxb6616786afmt", sum := "25697b1e8433ffee45cbd5699adf42e4195959133e42bd9465f8dcf53265ca79", func := "example.com/bursar/bursar/zzlaws_internal_gate_b1.FnReplayTwiceChangesNothing", spec := "fnReplayTwiceChangesNothing", stops := ["fmt.errorf"], inPlace := ["fmt.errorf"], recurses := true, plainKeys := false, apart := false }
/-- NO THEOREM (fmt's text is open here; it may be false): for the released tool's asking of the row's closed facts alone. THE STATEMENT IS 'FnReplayTwiceChangesNothingToldSaid' (Qxb6616786aFmtCards.lean). -/
def FnReplayTwiceChangesNothingFormAsk : Prop := fnReplayTwiceChangesNothingRow.holds Tryf.pinned (OpenSpec.ofChange fnReplayTwiceChangesNothingSpec)

/-- ITS FALSE NEIGHBOUR: 'it returns false'. Refute it at one input. -/
def fnReplayTwiceChangesNothingWrong : ChangeSpec := { name := "fnReplayTwiceChangesNothing", fn := fun _ => fun
  | [d] => { results := [.lit (.bool false)], args := [d] }
  | _ => none }
def FnReplayTwiceChangesNothingWrongFormAsk : Prop := fnReplayTwiceChangesNothingRow.holds Tryf.pinned (OpenSpec.ofChange fnReplayTwiceChangesNothingWrong)

end Rows
end Go.Proofs.Qxb6616786aFmt
