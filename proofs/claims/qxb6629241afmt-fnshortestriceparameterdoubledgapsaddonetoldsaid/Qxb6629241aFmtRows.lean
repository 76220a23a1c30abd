/-
  No cell of these rows narrows 'for every input' (looked for: loops, veiled, ifaces, maps, wideKeys, modest, calm, conditions, laid).
  DERIVED. THE GIVEN ROWS OF THIS SEAT. 2 by the template 'for every input the law returns true; each argument reads behind the call as it read before'; 0 by the template 'total and deterministic' (their statements: Qxb6629241aFmtTotals.lean).
  GIVEN WITH THE SEED: the statements are not yours to turn. If you find one false, say at which input.
  Laid BY PROGRAM, IN A SANDBOX (cutbox-rows.mjs): the forced cells as the released guide's own fill.sh prints them over the translation e41568095853c977… (all of the seat's roots in one cut). By AI agents, Wed Nov 11 2026. No macro, syntax, notation, axiom, sorry.
-/
import Derived.Test.Qxb6629241aFmtChecked
import GoSem.Claim
import GoSem.ClaimJoined
import GoSem.ClaimMapViews
import Derived.JoinedTies
import Derived.KernelRfl
namespace Go.Proofs.Qxb6629241aFmt
/- THE CELL 'sum', in the pinned program and in every row, IS THE sha256 OF THE DUMP (.gsa) THAT Qxb6629241aFmtProg.lean LOADS. Nothing in Lean hashes anything: it is a label: what it is worth is what the hold of that sum in a sandbox is worth. -/
noncomputable def Tryf.pinned : Pinned := { name := "qxb6629241afmt", sum := "e41568095853c9774aede7ee1648b46b0274e173c15850b45af10d8c92d97a87", checked := Tryf.checked }
namespace Rows
def none {H : Type} : Left H := { results := [], args := [] }

/-- 'zzlaws_internal_wire_b1.FnShortestRiceParameterIsLeastCostArgmin': WHATEVER THE INPUT: true; the input reads as it did. -/
def fnShortestRiceParameterIsLeastCostArgminSpec : ChangeSpec := { name := "fnShortestRiceParameterIsLeastCostArgmin", fn := fun _ => fun
  | [d] => { results := [.lit (.bool true)], args := [d] }
  | _ => none }
def fnShortestRiceParameterIsLeastCostArgminRow : OpenClaim := { program := "qxb6629241afmt", sum := "e41568095853c9774aede7ee1648b46b0274e173c15850b45af10d8c92d97a87", func := "example.com/hashwarden/hashwarden/zzlaws_internal_wire_b1.FnShortestRiceParameterIsLeastCostArgmin", spec := "fnShortestRiceParameterIsLeastCostArgmin", stops := ["fmt.Sprintf"], inPlace := ["fmt.Sprintf"], apart := false }
/-- NO THEOREM (fmt's text is open here; it may be false): for the released tool's asking of the row's closed facts alone. THE STATEMENT IS 'FnShortestRiceParameterIsLeastCostArgminToldSaid' (Qxb6629241aFmtCards.lean). -/
def FnShortestRiceParameterIsLeastCostArgminFormAsk : Prop := fnShortestRiceParameterIsLeastCostArgminRow.holds Tryf.pinned (OpenSpec.ofChange fnShortestRiceParameterIsLeastCostArgminSpec)

/-- ITS FALSE NEIGHBOUR: 'it returns false'. Refute it at one input. -/
def fnShortestRiceParameterIsLeastCostArgminWrong : ChangeSpec := { name := "fnShortestRiceParameterIsLeastCostArgmin", fn := fun _ => fun
  | [d] => { results := [.lit (.bool false)], args := [d] }
  | _ => none }
def FnShortestRiceParameterIsLeastCostArgminWrongFormAsk : Prop := fnShortestRiceParameterIsLeastCostArgminRow.holds Tryf.pinned (OpenSpec.ofChange fnShortestRiceParameterIsLeastCostArgminWrong)

/-- 'zzlaws_internal_wire_b1.FnShortestRiceParameterDoubledGapsAddOne': WHATEVER THE INPUT: true; the input reads as it did. -/
def fnShortestRiceParameterDoubledGapsAddOneSpec : ChangeSpec := { name := "fnShortestRiceParameterDoubledGapsAddOne", fn := fun _ => fun
  | [d1, d2] => { results := [.lit (.bool true)], args := [d1, d2] }
  | _ => none }
def fnShortestRiceParameterDoubledGapsAddOneRow : OpenClaim := { program := "qxb6629241afmt", sum := "e41568095853c9774aede7ee1648b46b0274e173c15850b45af10d8c92d97a87", func := "example.com/hashwarden/hashwarden/zzlaws_internal_wire_b1.FnShortestRiceParameterDoubledGapsAddOne", spec := "fnShortestRiceParameterDoubledGapsAddOne", stops := ["fmt.Sprintf"], inPlace := ["fmt.Sprintf"], apart := false }
/-- NO THEOREM (fmt's text is open here; it may be false): for the released tool's asking of the row's closed facts alone. THE STATEMENT IS 'FnShortestRiceParameterDoubledGapsAddOneToldSaid' (Qxb6629241aFmtCards.lean). -/
def FnShortestRiceParameterDoubledGapsAddOneFormAsk : Prop := fnShortestRiceParameterDoubledGapsAddOneRow.holds Tryf.pinned (OpenSpec.ofChange fnShortestRiceParameterDoubledGapsAddOneSpec)

/-- ITS FALSE NEIGHBOUR: 'it returns false'. Refute it at one input. -/
def fnShortestRiceParameterDoubledGapsAddOneWrong : ChangeSpec := { name := "fnShortestRiceParameterDoubledGapsAddOne", fn := fun _ => fun
  | [d1, d2] => { results := [.lit (.bool false)], args := [d1, d2] }
  | _ => none }
def FnShortestRiceParameterDoubledGapsAddOneWrongFormAsk : Prop := fnShortestRiceParameterDoubledGapsAddOneRow.holds Tryf.pinned (OpenSpec.ofChange fnShortestRiceParameterDoubledGapsAddOneWrong)

end Rows
end Go.Proofs.Qxb6629241aFmt
