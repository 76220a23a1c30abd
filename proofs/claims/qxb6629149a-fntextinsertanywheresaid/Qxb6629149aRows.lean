/-
  No cell of these rows narrows 'for every input' (looked for: loops, veiled, ifaces, maps, wideKeys, modest, calm, conditions, laid).
  DERIVED. THE GIVEN ROWS OF THIS SEAT. 2 by the template 'for every input the law returns true; each argument reads behind the call as it read before'; 0 by the template 'total and deterministic' (their statements: Qxb6629149aTotals.lean).
  GIVEN WITH THE SEED: the statements are not yours to turn. If you find one false, say at which input.
  Laid BY PROGRAM, IN A SANDBOX (cutbox-rows.mjs): the forced cells as the released guide's own fill.sh prints them over the translation 8be5d3eb53af21cd… (all of the seat's roots in one cut). By AI agents, Wed Nov 11 2026. No macro, syntax, notation, axiom, sorry.
-/
import Derived.Test.Qxb6629149aChecked
import GoSem.Claim
import GoSem.ClaimJoined
import GoSem.ClaimMapViews
import Derived.JoinedTies
import Derived.KernelRfl
namespace Go.Proofs.Qxb6629149a
/- THE CELL 'sum', in the pinned program and in every row, IS THE sha256 OF THE DUMP (.gsa) THAT Qxb6629149aProg.lean LOADS. Nothing in Lean hashes anything: it is a label: what it is worth is what the hold of that sum in a sandbox is worth. -/
noncomputable def Try.pinned : Pinned := { name := "qxb6629149a", sum := "8be5d3eb53af21cde4db0da485bcd1ff92816df99f4e8518e7aaaf694736dc5f", checked := Try.checked }
namespace Rows
def none {H : Type} : Left H := { results := [], args := [] }

/-- 'zzlaws_worker_b1.FnTextCutAnywhere': WHATEVER THE INPUT: true; the input reads as it did. -/
def fnTextCutAnywhereSpec : ChangeSpec := { name := "fnTextCutAnywhere", fn := fun _ => fun
  | [d1, d2, d3] => { results := [.lit (.bool true)], args := [d1, d2, d3] }
  | _ => none }
def fnTextCutAnywhereRow : OpenClaim := { program := "qxb6629149a", sum := "8be5d3eb53af21cde4db0da485bcd1ff92816df99f4e8518e7aaaf694736dc5f", func := "example.com/kindling/kindling/zzlaws_worker_b1.FnTextCutAnywhere", spec := "fnTextCutAnywhere", inPlace := ["internal/abi.NoEscape", "internal/bytealg.MakeNoZero"], apart := false }
def FnTextCutAnywhereSaid : Prop := fnTextCutAnywhereRow.holds Try.pinned (OpenSpec.ofChange fnTextCutAnywhereSpec)

/-- ITS FALSE NEIGHBOUR: 'it returns false'. Refute it at one input. -/
def fnTextCutAnywhereWrong : ChangeSpec := { name := "fnTextCutAnywhere", fn := fun _ => fun
  | [d1, d2, d3] => { results := [.lit (.bool false)], args := [d1, d2, d3] }
  | _ => none }
def FnTextCutAnywhereWrongFalsely : Prop := fnTextCutAnywhereRow.holds Try.pinned (OpenSpec.ofChange fnTextCutAnywhereWrong)

/-- 'zzlaws_worker_b1.FnTextInsertAnywhere': WHATEVER THE INPUT: true; the input reads as it did. -/
def fnTextInsertAnywhereSpec : ChangeSpec := { name := "fnTextInsertAnywhere", fn := fun _ => fun
  | [d1, d2, d3, d4] => { results := [.lit (.bool true)], args := [d1, d2, d3, d4] }
  | _ => none }
def fnTextInsertAnywhereRow : OpenClaim := { program := "qxb6629149a", sum := "8be5d3eb53af21cde4db0da485bcd1ff92816df99f4e8518e7aaaf694736dc5f", func := "example.com/kindling/kindling/zzlaws_worker_b1.FnTextInsertAnywhere", spec := "fnTextInsertAnywhere", inPlace := ["internal/abi.NoEscape", "internal/bytealg.MakeNoZero"], apart := false }
def FnTextInsertAnywhereSaid : Prop := fnTextInsertAnywhereRow.holds Try.pinned (OpenSpec.ofChange fnTextInsertAnywhereSpec)

/-- ITS FALSE NEIGHBOUR: 'it returns false'. Refute it at one input. -/
def fnTextInsertAnywhereWrong : ChangeSpec := { name := "fnTextInsertAnywhere", fn := fun _ => fun
  | [d1, d2, d3, d4] => { results := [.lit (.bool false)], args := [d1, d2, d3, d4] }
  | _ => none }
def FnTextInsertAnywhereWrongFalsely : Prop := fnTextInsertAnywhereRow.holds Try.pinned (OpenSpec.ofChange fnTextInsertAnywhereWrong)

end Rows
end Go.Proofs.Qxb6629149a
