/-
  DERIVED. GIVEN WITH THE SEED: THE CARDS: each row of Qxb6616786aFmtRows.lean that lists a variable, with what it lists TIED to the program's text (the seventh form; the later family's looks); each row that meets fmt, with fmt's text TOLD by the authors' own Lean function (tested against real Go, not proved from fmt's source: count such statements apart). THE CARD IS WHAT COUNTS. Prove the row's statement (the work); the ties are given (Qxb6616786aFmtTie.lean); close each card by the builder's one call (the guide's Derived/Test/ToyasCard.lean, 'card_holds'). Laid BY PROGRAM, IN A SANDBOX (cutbox-door.mjs). By AI agents, Wed Nov 11 2026. No macro, syntax, notation, axiom, sorry.
-/
import Derived.Test.Qxb6616786aFmtRows
import GoSem.ClaimSeven
namespace Go.Proofs.Qxb6616786aFmt
namespace Rows

/-- THE TOLD CARD OF 'zzlaws_internal_gate_b1.FnReplayCutAnywhere'. -/
def fnReplayCutAnywhereCard : Claim7 := { stood := { row := fnReplayCutAnywhereRow, standIns := [], harness := (true, "9fa658f8ecac0b2b2e2873cc19b53b4479ebddaa9fdbc55ac554e4eab11081fe"), looks := false }, told := true, goes := false }
def FnReplayCutAnywhereToldSaid : Prop := Claim7.holds Tryf.pinned (.plain (OpenSpec.ofChange fnReplayCutAnywhereSpec)) fnReplayCutAnywhereCard
/-- ITS FALSE NEIGHBOUR. Refute it at one input. -/
def FnReplayCutAnywhereToldWrongFalsely : Prop := Claim7.holds Tryf.pinned (.plain (OpenSpec.ofChange fnReplayCutAnywhereWrong)) fnReplayCutAnywhereCard

/-- THE TOLD CARD OF 'zzlaws_internal_gate_b1.FnReplayTwiceChangesNothing'. -/
def fnReplayTwiceChangesNothingCard : Claim7 := { stood := { row := fnReplayTwiceChangesNothingRow, standIns := [], harness := (true, "9fa658f8ecac0b2b2e2873cc19b53b4479ebddaa9fdbc55ac554e4eab11081fe"), looks := false }, told := true, goes := false }
def FnReplayTwiceChangesNothingToldSaid : Prop := Claim7.holds Tryf.pinned (.plain (OpenSpec.ofChange fnReplayTwiceChangesNothingSpec)) fnReplayTwiceChangesNothingCard
/-- ITS FALSE NEIGHBOUR. Refute it at one input. -/
def FnReplayTwiceChangesNothingToldWrongFalsely : Prop := Claim7.holds Tryf.pinned (.plain (OpenSpec.ofChange fnReplayTwiceChangesNothingWrong)) fnReplayTwiceChangesNothingCard
end Rows
end Go.Proofs.Qxb6616786aFmt
