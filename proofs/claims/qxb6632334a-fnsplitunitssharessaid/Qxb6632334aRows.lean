/-
  No cell of these rows narrows 'for every input' (looked for: loops, veiled, ifaces, maps, wideKeys, modest, calm, conditions, laid).
  DERIVED. THE GIVEN ROWS OF THIS SEAT. 2 by the template 'for every input the law returns true; each argument reads behind the call as it read before'; 0 by the template 'total and deterministic' (their statements: Qxb6632334aTotals.lean).
  GIVEN WITH THE SEED: the statements are not yours to turn. If you find one false, say at which input.
  Laid BY PROGRAM, IN A SANDBOX (cutbox-rows.mjs): the forced cells as the released guide's own fill.sh prints them over the translation 63a2edd14f3ac6d2… (all of the seat's roots in one cut). By AI agents, Wed Nov 11 2026. No macro, syntax, notation, axiom, sorry.
-/
import Derived.Test.Qxb6632334aChecked
import GoSem.Claim
import GoSem.ClaimJoined
import GoSem.ClaimMapViews
import Derived.JoinedTies
import Derived.KernelRfl
namespace Go.Proofs.Qxb6632334a
/- THE CELL 'sum', in the pinned program and in every row, IS THE sha256 OF THE DUMP (.gsa) THAT Qxb6632334aProg.lean LOADS. Nothing in Lean hashes anything: it is a label: what it is worth is what the hold of that sum in a sandbox is worth. -/
noncomputable def Try.pinned : Pinned := { name := "qxb6632334a", sum := "63a2edd14f3ac6d2bbd2f99d0e457e73e92d27585ab9d68bac9f4b1bbb9c5c3a", checked := Try.checked }
namespace Rows
def none {H : Type} : Left H := { results := [], args := [] }

/-- 'zzlaws_plan_b1.FnSplitUnitsShares': WHATEVER THE INPUT: true; the input reads as it did. -/
def fnSplitUnitsSharesSpec : ChangeSpec := { name := "fnSplitUnitsShares", fn := fun _ => fun
  | [d1, d2] => { results := [.lit (.bool true)], args := [d1, d2] }
  | _ => none }
def fnSplitUnitsSharesRow : OpenClaim := { program := "qxb6632334a", sum := "63a2edd14f3ac6d2bbd2f99d0e457e73e92d27585ab9d68bac9f4b1bbb9c5c3a", func := "example.com/vestline/vestline/zzlaws_plan_b1.FnSplitUnitsShares", spec := "fnSplitUnitsShares", apart := false }
def FnSplitUnitsSharesSaid : Prop := fnSplitUnitsSharesRow.holds Try.pinned (OpenSpec.ofChange fnSplitUnitsSharesSpec)

/-- ITS FALSE NEIGHBOUR: 'it returns false'. Refute it at one input. -/
def fnSplitUnitsSharesWrong : ChangeSpec := { name := "fnSplitUnitsShares", fn := fun _ => fun
  | [d1, d2] => { results := [.lit (.bool false)], args := [d1, d2] }
  | _ => none }
def FnSplitUnitsSharesWrongFalsely : Prop := fnSplitUnitsSharesRow.holds Try.pinned (OpenSpec.ofChange fnSplitUnitsSharesWrong)

/-- 'zzlaws_plan_b1.FnSplitUnitsHundredMore': WHATEVER THE INPUT: true; the input reads as it did. -/
def fnSplitUnitsHundredMoreSpec : ChangeSpec := { name := "fnSplitUnitsHundredMore", fn := fun _ => fun
  | [d1, d2] => { results := [.lit (.bool true)], args := [d1, d2] }
  | _ => none }
def fnSplitUnitsHundredMoreRow : OpenClaim := { program := "qxb6632334a", sum := "63a2edd14f3ac6d2bbd2f99d0e457e73e92d27585ab9d68bac9f4b1bbb9c5c3a", func := "example.com/vestline/vestline/zzlaws_plan_b1.FnSplitUnitsHundredMore", spec := "fnSplitUnitsHundredMore", apart := false }
def FnSplitUnitsHundredMoreSaid : Prop := fnSplitUnitsHundredMoreRow.holds Try.pinned (OpenSpec.ofChange fnSplitUnitsHundredMoreSpec)

/-- ITS FALSE NEIGHBOUR: 'it returns false'. Refute it at one input. -/
def fnSplitUnitsHundredMoreWrong : ChangeSpec := { name := "fnSplitUnitsHundredMore", fn := fun _ => fun
  | [d1, d2] => { results := [.lit (.bool false)], args := [d1, d2] }
  | _ => none }
def FnSplitUnitsHundredMoreWrongFalsely : Prop := fnSplitUnitsHundredMoreRow.holds Try.pinned (OpenSpec.ofChange fnSplitUnitsHundredMoreWrong)

end Rows
end Go.Proofs.Qxb6632334a
