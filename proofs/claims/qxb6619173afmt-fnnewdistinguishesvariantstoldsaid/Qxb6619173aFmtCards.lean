/-
  DERIVED. GIVEN WITH THE SEED: THE CARDS: each row of Qxb6619173aFmtRows.lean that lists a variable, with what it lists TIED to the program's text (the seventh form; the later family's looks); each row that meets fmt, with fmt's text TOLD by the authors' own Lean function (tested against real Go, not proved from fmt's source: count such statements apart). THE CARD IS WHAT COUNTS. Prove the row's statement (the work); the ties are given (Qxb6619173aFmtTie.lean); close each card by the builder's one call (the guide's Derived/Test/ToyasCard.lean, 'card_holds'). Laid BY PROGRAM, IN A SANDBOX (cutbox-door.mjs). By AI agents, Wed Nov 11 2026. No macro, syntax, notation, axiom, sorry.
-/
import Derived.Test.Qxb6619173aFmtRows
import GoSem.ClaimSeven
namespace Go.Proofs.Qxb6619173aFmt
namespace Rows

/-- THE TOLD CARD OF 'zzlaws_chained_e1.FnNewDistinguishesVariants'. -/
def fnNewDistinguishesVariantsCard : Claim7 := { stood := { row := fnNewDistinguishesVariantsRow, standIns := [], harness := (true, "39a07f7505b040741d2bc0b03a8318a65aad61e2b2e29d5e4b898d3ee49bdf67"), looks := false }, told := true, goes := false }
def FnNewDistinguishesVariantsToldSaid : Prop := Claim7.holds Tryf.pinned (.plain (OpenSpec.ofChange fnNewDistinguishesVariantsSpec)) fnNewDistinguishesVariantsCard
/-- ITS FALSE NEIGHBOUR. Refute it at one input. -/
def FnNewDistinguishesVariantsToldWrongFalsely : Prop := Claim7.holds Tryf.pinned (.plain (OpenSpec.ofChange fnNewDistinguishesVariantsWrong)) fnNewDistinguishesVariantsCard

/-- THE TOLD CARD OF 'zzlaws_chained_e1.FnNewAcceptsAtMostTheTwoNamedVariants'. -/
def fnNewAcceptsAtMostTheTwoNamedVariantsCard : Claim7 := { stood := { row := fnNewAcceptsAtMostTheTwoNamedVariantsRow, standIns := [], harness := (true, "39a07f7505b040741d2bc0b03a8318a65aad61e2b2e29d5e4b898d3ee49bdf67"), looks := false }, told := true, goes := false }
def FnNewAcceptsAtMostTheTwoNamedVariantsToldSaid : Prop := Claim7.holds Tryf.pinned (.plain (OpenSpec.ofChange fnNewAcceptsAtMostTheTwoNamedVariantsSpec)) fnNewAcceptsAtMostTheTwoNamedVariantsCard
/-- ITS FALSE NEIGHBOUR. Refute it at one input. -/
def FnNewAcceptsAtMostTheTwoNamedVariantsToldWrongFalsely : Prop := Claim7.holds Tryf.pinned (.plain (OpenSpec.ofChange fnNewAcceptsAtMostTheTwoNamedVariantsWrong)) fnNewAcceptsAtMostTheTwoNamedVariantsCard
end Rows
end Go.Proofs.Qxb6619173aFmt
