/-
  No cell of these rows narrows 'for every input' (looked for: loops, veiled, ifaces, maps, wideKeys, modest, calm, conditions, laid).
  DERIVED. THE GIVEN ROWS OF THIS SEAT. 2 by the template 'for every input the law returns true; each argument reads behind the call as it read before'; 0 by the template 'total and deterministic' (their statements: Qxb6629102aTotals.lean).
  GIVEN WITH THE SEED: the statements are not yours to turn. If you find one false, say at which input.
  Laid BY PROGRAM, IN A SANDBOX (cutbox-rows.mjs): the forced cells as the released guide's own fill.sh prints them over the translation 1918de65ad3f816f… (all of the seat's roots in one cut). By AI agents, Wed Nov 11 2026. No macro, syntax, notation, axiom, sorry.
-/
import Derived.Test.Qxb6629102aChecked
import GoSem.Claim
import GoSem.ClaimJoined
import GoSem.ClaimMapViews
import Derived.JoinedTies
import Derived.KernelRfl
namespace Go.Proofs.Qxb6629102a
/- THE CELL 'sum', in the pinned program and in every row, IS THE sha256 OF THE DUMP (.gsa) THAT Qxb6629102aProg.lean LOADS. Nothing in Lean hashes anything: it is a label: what it is worth is what the hold of that sum in a sandbox is worth. -/
noncomputable def Try.pinned : Pinned := { name := "qxb6629102a", sum := "1918de65ad3f816f839ee3d3f63ef15c3461625fe13c048143d4ad9ee5dfa603", checked := Try.checked }
namespace Rows
def none {H : Type} : Left H := { results := [], args := [] }

/-- 'zzlaws_internal_wire_b1.FnAppendProtoDecodesBackStrictly': WHATEVER THE INPUT: true; the input reads as it did. -/
def fnAppendProtoDecodesBackStrictlySpec : ChangeSpec := { name := "fnAppendProtoDecodesBackStrictly", fn := fun _ => fun
  | [d1, d2] => { results := [.lit (.bool true)], args := [d1, d2] }
  | _ => none }
def fnAppendProtoDecodesBackStrictlyRow : OpenClaim := { program := "qxb6629102a", sum := "1918de65ad3f816f839ee3d3f63ef15c3461625fe13c048143d4ad9ee5dfa603", func := "example.com/ledgerwick/ledgerwick/zzlaws_internal_wire_b1.FnAppendProtoDecodesBackStrictly", spec := "fnAppendProtoDecodesBackStrictly", apart := false }
def FnAppendProtoDecodesBackStrictlySaid : Prop := fnAppendProtoDecodesBackStrictlyRow.holds Try.pinned (OpenSpec.ofChange fnAppendProtoDecodesBackStrictlySpec)

/-- ITS FALSE NEIGHBOUR: 'it returns false'. Refute it at one input. -/
def fnAppendProtoDecodesBackStrictlyWrong : ChangeSpec := { name := "fnAppendProtoDecodesBackStrictly", fn := fun _ => fun
  | [d1, d2] => { results := [.lit (.bool false)], args := [d1, d2] }
  | _ => none }
def FnAppendProtoDecodesBackStrictlyWrongFalsely : Prop := fnAppendProtoDecodesBackStrictlyRow.holds Try.pinned (OpenSpec.ofChange fnAppendProtoDecodesBackStrictlyWrong)

/-- 'zzlaws_internal_wire_b1.FnAppendProtoBatchesConcatenate': WHATEVER THE INPUT: true; the input reads as it did. -/
def fnAppendProtoBatchesConcatenateSpec : ChangeSpec := { name := "fnAppendProtoBatchesConcatenate", fn := fun _ => fun
  | [d1, d2, d3] => { results := [.lit (.bool true)], args := [d1, d2, d3] }
  | _ => none }
def fnAppendProtoBatchesConcatenateRow : OpenClaim := { program := "qxb6629102a", sum := "1918de65ad3f816f839ee3d3f63ef15c3461625fe13c048143d4ad9ee5dfa603", func := "example.com/ledgerwick/ledgerwick/zzlaws_internal_wire_b1.FnAppendProtoBatchesConcatenate", spec := "fnAppendProtoBatchesConcatenate", apart := false }
def FnAppendProtoBatchesConcatenateSaid : Prop := fnAppendProtoBatchesConcatenateRow.holds Try.pinned (OpenSpec.ofChange fnAppendProtoBatchesConcatenateSpec)

/-- ITS FALSE NEIGHBOUR: 'it returns false'. Refute it at one input. -/
def fnAppendProtoBatchesConcatenateWrong : ChangeSpec := { name := "fnAppendProtoBatchesConcatenate", fn := fun _ => fun
  | [d1, d2, d3] => { results := [.lit (.bool false)], args := [d1, d2, d3] }
  | _ => none }
def FnAppendProtoBatchesConcatenateWrongFalsely : Prop := fnAppendProtoBatchesConcatenateRow.holds Try.pinned (OpenSpec.ofChange fnAppendProtoBatchesConcatenateWrong)

end Rows
end Go.Proofs.Qxb6629102a
