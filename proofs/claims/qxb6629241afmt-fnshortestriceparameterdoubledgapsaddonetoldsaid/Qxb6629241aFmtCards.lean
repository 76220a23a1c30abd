/-
  DERIVED. GIVEN WITH THE SEED: THE CARDS: each row of Qxb6629241aFmtRows.lean that lists a variable, with what it lists TIED to the program's text (the seventh form; the later family's looks); each row that meets fmt, with fmt's text TOLD by the authors' own Lean function (tested against real Go, not proved from fmt's source: count such statements apart). THE CARD IS WHAT COUNTS. Prove the row's statement (the work); the ties are given (Qxb6629241aFmtTie.lean); close each card by the builder's one call (the guide's Derived/Test/ToyasCard.lean, 'card_holds'). Laid BY PROGRAM, IN A SANDBOX (cutbox-door.mjs). By AI agents, Wed Nov 11 2026. No macro, syntax, notation, axiom, sorry.
-/
import Derived.Test.Qxb6629241aFmtRows
import GoSem.ClaimSeven
namespace Go.Proofs.Qxb6629241aFmt
namespace Rows

/-- THE TOLD CARD OF 'zzlaws_internal_wire_b1.FnShortestRiceParameterIsLeastCostArgmin'. -/
def fnShortestRiceParameterIsLeastCostArgminCard : Claim7 := { stood := { row := fnShortestRiceParameterIsLeastCostArgminRow, standIns := [], harness := (true, "30cbef9031837bbc426ea2b12bf739cf5e0adc0a9a47bc9e7d901bc5b7d2e006"), looks := false }, told := true, goes := false }
def FnShortestRiceParameterIsLeastCostArgminToldSaid : Prop := Claim7.holds Tryf.pinned (.plain (OpenSpec.ofChange fnShortestRiceParameterIsLeastCostArgminSpec)) fnShortestRiceParameterIsLeastCostArgminCard
/-- ITS FALSE NEIGHBOUR. Refute it at one input. -/
def FnShortestRiceParameterIsLeastCostArgminToldWrongFalsely : Prop := Claim7.holds Tryf.pinned (.plain (OpenSpec.ofChange fnShortestRiceParameterIsLeastCostArgminWrong)) fnShortestRiceParameterIsLeastCostArgminCard

/-- THE TOLD CARD OF 'zzlaws_internal_wire_b1.FnShortestRiceParameterDoubledGapsAddOne'. -/
def fnShortestRiceParameterDoubledGapsAddOneCard : Claim7 := { stood := { row := fnShortestRiceParameterDoubledGapsAddOneRow, standIns := [], harness := (true, "30cbef9031837bbc426ea2b12bf739cf5e0adc0a9a47bc9e7d901bc5b7d2e006"), looks := false }, told := true, goes := false }
def FnShortestRiceParameterDoubledGapsAddOneToldSaid : Prop := Claim7.holds Tryf.pinned (.plain (OpenSpec.ofChange fnShortestRiceParameterDoubledGapsAddOneSpec)) fnShortestRiceParameterDoubledGapsAddOneCard
/-- ITS FALSE NEIGHBOUR. Refute it at one input. -/
def FnShortestRiceParameterDoubledGapsAddOneToldWrongFalsely : Prop := Claim7.holds Tryf.pinned (.plain (OpenSpec.ofChange fnShortestRiceParameterDoubledGapsAddOneWrong)) fnShortestRiceParameterDoubledGapsAddOneCard
end Rows
end Go.Proofs.Qxb6629241aFmt
