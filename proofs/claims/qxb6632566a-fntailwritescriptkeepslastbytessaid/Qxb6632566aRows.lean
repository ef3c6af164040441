/-
  No cell of these rows narrows 'for every input' (looked for: loops, veiled, ifaces, maps, wideKeys, modest, calm, conditions, laid).
  DERIVED. THE GIVEN ROWS OF THIS SEAT. 2 by the template 'for every input the law returns true; each argument reads behind the call as it read before'; 0 by the template 'total and deterministic' (their statements: Qxb6632566aTotals.lean).
  GIVEN WITH THE SEED: the statements are not yours to turn. If you find one false, say at which input.
  Laid BY PROGRAM, IN A SANDBOX (cutbox-rows.mjs): the forced cells as the released guide's own fill.sh prints them over the translation 8404f3171fbb5bfa… (all of the seat's roots in one cut). By AI agents, Wed Nov 11 2026. No macro, syntax, notation, axiom, sorry.
-/
import Derived.Test.Qxb6632566aChecked
import GoSem.Claim
import GoSem.ClaimJoined
import GoSem.ClaimMapViews
import Derived.JoinedTies
import Derived.KernelRfl
namespace Go.Proofs.Qxb6632566a
/- THE CELL 'sum', in the pinned program and in every row, IS THE sha256 OF THE DUMP (.gsa) THAT Qxb6632566aProg.lean LOADS. Nothing in Lean hashes anything: it is a label: what it is worth is what the hold of that sum in a sandbox is worth. -/
noncomputable def Try.pinned : Pinned := { name := "qxb6632566a", sum := "8404f3171fbb5bfa1e6aadab72053319b6183b9dead37d41bce20123c4b389e4", checked := Try.checked }
namespace Rows
def none {H : Type} : Left H := { results := [], args := [] }

/-- 'zzlaws_internal_process_b1.FnTailWriteCutInvariant': WHATEVER THE INPUT: true; the input reads as it did. -/
def fnTailWriteCutInvariantSpec : ChangeSpec := { name := "fnTailWriteCutInvariant", fn := fun _ => fun
  | [d1, d2, d3] => { results := [.lit (.bool true)], args := [d1, d2, d3] }
  | _ => none }
def fnTailWriteCutInvariantRow : OpenClaim := { program := "qxb6632566a", sum := "8404f3171fbb5bfa1e6aadab72053319b6183b9dead37d41bce20123c4b389e4", func := "example.com/valet-relay/valet-relay/zzlaws_internal_process_b1.FnTailWriteCutInvariant", spec := "fnTailWriteCutInvariant", apart := false }
def FnTailWriteCutInvariantSaid : Prop := fnTailWriteCutInvariantRow.holds Try.pinned (OpenSpec.ofChange fnTailWriteCutInvariantSpec)

/-- ITS FALSE NEIGHBOUR: 'it returns false'. Refute it at one input. -/
def fnTailWriteCutInvariantWrong : ChangeSpec := { name := "fnTailWriteCutInvariant", fn := fun _ => fun
  | [d1, d2, d3] => { results := [.lit (.bool false)], args := [d1, d2, d3] }
  | _ => none }
def FnTailWriteCutInvariantWrongFalsely : Prop := fnTailWriteCutInvariantRow.holds Try.pinned (OpenSpec.ofChange fnTailWriteCutInvariantWrong)

/-- 'zzlaws_internal_process_b1.FnTailWriteScriptKeepsLastBytes': WHATEVER THE INPUT: true; the input reads as it did. -/
def fnTailWriteScriptKeepsLastBytesSpec : ChangeSpec := { name := "fnTailWriteScriptKeepsLastBytes", fn := fun _ => fun
  | [d1, d2] => { results := [.lit (.bool true)], args := [d1, d2] }
  | _ => none }
def fnTailWriteScriptKeepsLastBytesRow : OpenClaim := { program := "qxb6632566a", sum := "8404f3171fbb5bfa1e6aadab72053319b6183b9dead37d41bce20123c4b389e4", func := "example.com/valet-relay/valet-relay/zzlaws_internal_process_b1.FnTailWriteScriptKeepsLastBytes", spec := "fnTailWriteScriptKeepsLastBytes", apart := false }
def FnTailWriteScriptKeepsLastBytesSaid : Prop := fnTailWriteScriptKeepsLastBytesRow.holds Try.pinned (OpenSpec.ofChange fnTailWriteScriptKeepsLastBytesSpec)

/-- ITS FALSE NEIGHBOUR: 'it returns false'. Refute it at one input. -/
def fnTailWriteScriptKeepsLastBytesWrong : ChangeSpec := { name := "fnTailWriteScriptKeepsLastBytes", fn := fun _ => fun
  | [d1, d2] => { results := [.lit (.bool false)], args := [d1, d2] }
  | _ => none }
def FnTailWriteScriptKeepsLastBytesWrongFalsely : Prop := fnTailWriteScriptKeepsLastBytesRow.holds Try.pinned (OpenSpec.ofChange fnTailWriteScriptKeepsLastBytesWrong)

end Rows
end Go.Proofs.Qxb6632566a
