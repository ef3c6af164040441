/-
  No cell of these rows narrows 'for every input' (looked for: loops, veiled, ifaces, maps, wideKeys, modest, calm, conditions, laid).
  DERIVED. THE GIVEN ROWS OF THIS SEAT. 2 by the template 'for every input the law returns true; each argument reads behind the call as it read before'; 0 by the template 'total and deterministic' (their statements: Qxb6632402aTotals.lean).
  GIVEN WITH THE SEED: the statements are not yours to turn. If you find one false, say at which input.
  Laid BY PROGRAM, IN A SANDBOX (cutbox-rows.mjs): the forced cells as the released guide's own fill.sh prints them over the translation 85a0d802d3f5ea37… (all of the seat's roots in one cut). By AI agents, Wed Nov 11 2026. No macro, syntax, notation, axiom, sorry.
-/
import Derived.Test.Qxb6632402aChecked
import GoSem.Claim
import GoSem.ClaimJoined
import GoSem.ClaimMapViews
import Derived.JoinedTies
import Derived.KernelRfl
namespace Go.Proofs.Qxb6632402a
/- THE CELL 'sum', in the pinned program and in every row, IS THE sha256 OF THE DUMP (.gsa) THAT Qxb6632402aProg.lean LOADS. Nothing in Lean hashes anything: it is a label: what it is worth is what the hold of that sum in a sandbox is worth. -/
noncomputable def Try.pinned : Pinned := { name := "qxb6632402a", sum := "85a0d802d3f5ea372f43237285a9210acf9a4132a2fc9bb32cd5cf807053c753", checked := Try.checked }
namespace Rows
def none {H : Type} : Left H := { results := [], args := [] }

/-- 'zzlaws_internal_document_b1.FnRegexpEndConcatAtAnyCut': WHATEVER THE INPUT: true; the input reads as it did. -/
def fnRegexpEndConcatAtAnyCutSpec : ChangeSpec := { name := "fnRegexpEndConcatAtAnyCut", fn := fun _ => fun
  | [d1, d2] => { results := [.lit (.bool true)], args := [d1, d2] }
  | _ => none }
def fnRegexpEndConcatAtAnyCutRow : OpenClaim := { program := "qxb6632402a", sum := "85a0d802d3f5ea372f43237285a9210acf9a4132a2fc9bb32cd5cf807053c753", func := "example.com/sleevecraft/sleevecraft/zzlaws_internal_document_b1.FnRegexpEndConcatAtAnyCut", spec := "fnRegexpEndConcatAtAnyCut", apart := false }
def FnRegexpEndConcatAtAnyCutSaid : Prop := fnRegexpEndConcatAtAnyCutRow.holds Try.pinned (OpenSpec.ofChange fnRegexpEndConcatAtAnyCutSpec)

/-- ITS FALSE NEIGHBOUR: 'it returns false'. Refute it at one input. -/
def fnRegexpEndConcatAtAnyCutWrong : ChangeSpec := { name := "fnRegexpEndConcatAtAnyCut", fn := fun _ => fun
  | [d1, d2] => { results := [.lit (.bool false)], args := [d1, d2] }
  | _ => none }
def FnRegexpEndConcatAtAnyCutWrongFalsely : Prop := fnRegexpEndConcatAtAnyCutRow.holds Try.pinned (OpenSpec.ofChange fnRegexpEndConcatAtAnyCutWrong)

/-- 'zzlaws_internal_document_b1.FnRegexpEndOrdinaryByteInserted': WHATEVER THE INPUT: true; the input reads as it did. -/
def fnRegexpEndOrdinaryByteInsertedSpec : ChangeSpec := { name := "fnRegexpEndOrdinaryByteInserted", fn := fun _ => fun
  | [d1, d2, d3] => { results := [.lit (.bool true)], args := [d1, d2, d3] }
  | _ => none }
def fnRegexpEndOrdinaryByteInsertedRow : OpenClaim := { program := "qxb6632402a", sum := "85a0d802d3f5ea372f43237285a9210acf9a4132a2fc9bb32cd5cf807053c753", func := "example.com/sleevecraft/sleevecraft/zzlaws_internal_document_b1.FnRegexpEndOrdinaryByteInserted", spec := "fnRegexpEndOrdinaryByteInserted", apart := false }
def FnRegexpEndOrdinaryByteInsertedSaid : Prop := fnRegexpEndOrdinaryByteInsertedRow.holds Try.pinned (OpenSpec.ofChange fnRegexpEndOrdinaryByteInsertedSpec)

/-- ITS FALSE NEIGHBOUR: 'it returns false'. Refute it at one input. -/
def fnRegexpEndOrdinaryByteInsertedWrong : ChangeSpec := { name := "fnRegexpEndOrdinaryByteInserted", fn := fun _ => fun
  | [d1, d2, d3] => { results := [.lit (.bool false)], args := [d1, d2, d3] }
  | _ => none }
def FnRegexpEndOrdinaryByteInsertedWrongFalsely : Prop := fnRegexpEndOrdinaryByteInsertedRow.holds Try.pinned (OpenSpec.ofChange fnRegexpEndOrdinaryByteInsertedWrong)

end Rows
end Go.Proofs.Qxb6632402a
