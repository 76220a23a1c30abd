/-
  No cell of these rows narrows 'for every input' (looked for: loops, veiled, ifaces, maps, wideKeys, modest, calm, conditions, laid).
  DERIVED. THE GIVEN ROWS OF THIS SEAT. 2 by the template 'for every input the law returns true; each argument reads behind the call as it read before'; 0 by the template 'total and deterministic' (their statements: Qxb6629179aTotals.lean).
  GIVEN WITH THE SEED: the statements are not yours to turn. If you find one false, say at which input.
  Laid BY PROGRAM, IN A SANDBOX (cutbox-rows.mjs): the forced cells as the released guide's own fill.sh prints them over the translation d9d1c4b67c2616ed… (all of the seat's roots in one cut). By AI agents, Wed Nov 11 2026. No macro, syntax, notation, axiom, sorry.
-/
import Derived.Test.Qxb6629179aChecked
import GoSem.Claim
import GoSem.ClaimJoined
import GoSem.ClaimMapViews
import Derived.JoinedTies
import Derived.KernelRfl
namespace Go.Proofs.Qxb6629179a
/- THE CELL 'sum', in the pinned program and in every row, IS THE sha256 OF THE DUMP (.gsa) THAT Qxb6629179aProg.lean LOADS. Nothing in Lean hashes anything: it is a label: what it is worth is what the hold of that sum in a sandbox is worth. -/
noncomputable def Try.pinned : Pinned := { name := "qxb6629179a", sum := "d9d1c4b67c2616ed14a616fb417639d61bb4f9c673d68fd326a23165e637fc9f", checked := Try.checked }
namespace Rows
def none {H : Type} : Left H := { results := [], args := [] }

/-- 'zzlaws_internal_bech32_b1.FnHrpExpandConcat': WHATEVER THE INPUT: true; the input reads as it did. -/
def fnHrpExpandConcatSpec : ChangeSpec := { name := "fnHrpExpandConcat", fn := fun _ => fun
  | [d1, d2] => { results := [.lit (.bool true)], args := [d1, d2] }
  | _ => none }
def fnHrpExpandConcatRow : OpenClaim := { program := "qxb6629179a", sum := "d9d1c4b67c2616ed14a616fb417639d61bb4f9c673d68fd326a23165e637fc9f", func := "example.com/strandseal/strandseal/zzlaws_internal_bech32_b1.FnHrpExpandConcat", spec := "fnHrpExpandConcat", apart := false }
def FnHrpExpandConcatSaid : Prop := fnHrpExpandConcatRow.holds Try.pinned (OpenSpec.ofChange fnHrpExpandConcatSpec)

/-- ITS FALSE NEIGHBOUR: 'it returns false'. Refute it at one input. -/
def fnHrpExpandConcatWrong : ChangeSpec := { name := "fnHrpExpandConcat", fn := fun _ => fun
  | [d1, d2] => { results := [.lit (.bool false)], args := [d1, d2] }
  | _ => none }
def FnHrpExpandConcatWrongFalsely : Prop := fnHrpExpandConcatRow.holds Try.pinned (OpenSpec.ofChange fnHrpExpandConcatWrong)

/-- 'zzlaws_internal_bech32_b1.FnHrpExpandInjective': WHATEVER THE INPUT: true; the input reads as it did. -/
def fnHrpExpandInjectiveSpec : ChangeSpec := { name := "fnHrpExpandInjective", fn := fun _ => fun
  | [d1, d2] => { results := [.lit (.bool true)], args := [d1, d2] }
  | _ => none }
def fnHrpExpandInjectiveRow : OpenClaim := { program := "qxb6629179a", sum := "d9d1c4b67c2616ed14a616fb417639d61bb4f9c673d68fd326a23165e637fc9f", func := "example.com/strandseal/strandseal/zzlaws_internal_bech32_b1.FnHrpExpandInjective", spec := "fnHrpExpandInjective", apart := false }
def FnHrpExpandInjectiveSaid : Prop := fnHrpExpandInjectiveRow.holds Try.pinned (OpenSpec.ofChange fnHrpExpandInjectiveSpec)

/-- ITS FALSE NEIGHBOUR: 'it returns false'. Refute it at one input. -/
def fnHrpExpandInjectiveWrong : ChangeSpec := { name := "fnHrpExpandInjective", fn := fun _ => fun
  | [d1, d2] => { results := [.lit (.bool false)], args := [d1, d2] }
  | _ => none }
def FnHrpExpandInjectiveWrongFalsely : Prop := fnHrpExpandInjectiveRow.holds Try.pinned (OpenSpec.ofChange fnHrpExpandInjectiveWrong)

end Rows
end Go.Proofs.Qxb6629179a
