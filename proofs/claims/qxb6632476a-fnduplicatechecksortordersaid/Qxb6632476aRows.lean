/-
  No cell of these rows narrows 'for every input' (looked for: loops, veiled, ifaces, maps, wideKeys, modest, calm, conditions, laid).
  DERIVED. THE GIVEN ROWS OF THIS SEAT. 2 by the template 'for every input the law returns true; each argument reads behind the call as it read before'; 0 by the template 'total and deterministic' (their statements: Qxb6632476aTotals.lean).
  GIVEN WITH THE SEED: the statements are not yours to turn. If you find one false, say at which input.
  Laid BY PROGRAM, IN A SANDBOX (cutbox-rows.mjs): the forced cells as the released guide's own fill.sh prints them over the translation d091310e490bd33b… (all of the seat's roots in one cut). By AI agents, Wed Nov 11 2026. No macro, syntax, notation, axiom, sorry.
-/
import Derived.Test.Qxb6632476aChecked
import GoSem.Claim
import GoSem.ClaimJoined
import GoSem.ClaimMapViews
import Derived.JoinedTies
import Derived.KernelRfl
namespace Go.Proofs.Qxb6632476a
/- THE CELL 'sum', in the pinned program and in every row, IS THE sha256 OF THE DUMP (.gsa) THAT Qxb6632476aProg.lean LOADS. Nothing in Lean hashes anything: it is a label: what it is worth is what the hold of that sum in a sandbox is worth. -/
noncomputable def Try.pinned : Pinned := { name := "qxb6632476a", sum := "d091310e490bd33bb297071bf525992861b8ba09644cdabeb40e1487d039cc48", checked := Try.checked }
namespace Rows
def none {H : Type} : Left H := { results := [], args := [] }

/-- 'zzlaws_internal_lock_b1.FnDuplicateCheckCoverageAgainstNegation': WHATEVER THE INPUT: true; the input reads as it did. -/
def fnDuplicateCheckCoverageAgainstNegationSpec : ChangeSpec := { name := "fnDuplicateCheckCoverageAgainstNegation", fn := fun _ => fun
  | [d] => { results := [.lit (.bool true)], args := [d] }
  | _ => none }
def fnDuplicateCheckCoverageAgainstNegationRow : OpenClaim := { program := "qxb6632476a", sum := "d091310e490bd33bb297071bf525992861b8ba09644cdabeb40e1487d039cc48", func := "example.com/rowfence/rowfence/zzlaws_internal_lock_b1.FnDuplicateCheckCoverageAgainstNegation", spec := "fnDuplicateCheckCoverageAgainstNegation", apart := false }
def FnDuplicateCheckCoverageAgainstNegationSaid : Prop := fnDuplicateCheckCoverageAgainstNegationRow.holds Try.pinned (OpenSpec.ofChange fnDuplicateCheckCoverageAgainstNegationSpec)

/-- ITS FALSE NEIGHBOUR: 'it returns false'. Refute it at one input. -/
def fnDuplicateCheckCoverageAgainstNegationWrong : ChangeSpec := { name := "fnDuplicateCheckCoverageAgainstNegation", fn := fun _ => fun
  | [d] => { results := [.lit (.bool false)], args := [d] }
  | _ => none }
def FnDuplicateCheckCoverageAgainstNegationWrongFalsely : Prop := fnDuplicateCheckCoverageAgainstNegationRow.holds Try.pinned (OpenSpec.ofChange fnDuplicateCheckCoverageAgainstNegationWrong)

/-- 'zzlaws_internal_lock_b1.FnDuplicateCheckSortOrder': WHATEVER THE INPUT: true; the input reads as it did. -/
def fnDuplicateCheckSortOrderSpec : ChangeSpec := { name := "fnDuplicateCheckSortOrder", fn := fun _ => fun
  | [d] => { results := [.lit (.bool true)], args := [d] }
  | _ => none }
def fnDuplicateCheckSortOrderRow : OpenClaim := { program := "qxb6632476a", sum := "d091310e490bd33bb297071bf525992861b8ba09644cdabeb40e1487d039cc48", func := "example.com/rowfence/rowfence/zzlaws_internal_lock_b1.FnDuplicateCheckSortOrder", spec := "fnDuplicateCheckSortOrder", apart := false }
def FnDuplicateCheckSortOrderSaid : Prop := fnDuplicateCheckSortOrderRow.holds Try.pinned (OpenSpec.ofChange fnDuplicateCheckSortOrderSpec)

/-- ITS FALSE NEIGHBOUR: 'it returns false'. Refute it at one input. -/
def fnDuplicateCheckSortOrderWrong : ChangeSpec := { name := "fnDuplicateCheckSortOrder", fn := fun _ => fun
  | [d] => { results := [.lit (.bool false)], args := [d] }
  | _ => none }
def FnDuplicateCheckSortOrderWrongFalsely : Prop := fnDuplicateCheckSortOrderRow.holds Try.pinned (OpenSpec.ofChange fnDuplicateCheckSortOrderWrong)

end Rows
end Go.Proofs.Qxb6632476a
