/-
  No cell of these rows narrows 'for every input' (looked for: loops, veiled, ifaces, maps, wideKeys, modest, calm, conditions, laid).
  DERIVED. THE GIVEN ROWS OF THIS SEAT. 3 by the template 'for every input the law returns true; each argument reads behind the call as it read before'; 0 by the template 'total and deterministic' (their statements: Qxb6602724aTotals.lean).
  GIVEN WITH THE SEED: the statements are not yours to turn. If you find one false, say at which input.
  Laid BY PROGRAM, IN A SANDBOX (cutbox-rows.mjs): the forced cells as the released guide's own fill.sh prints them over the translation 93d738d9bfdba23f… (all of the seat's roots in one cut). By AI agents, Wed Nov 11 2026. No macro, syntax, notation, axiom, sorry.
-/
import Derived.Test.Qxb6602724aChecked
import GoSem.Claim
import GoSem.ClaimJoined
import GoSem.ClaimMapViews
import Derived.JoinedTies
import Derived.KernelRfl
namespace Go.Proofs.Qxb6602724a
/- THE CELL 'sum', in the pinned program and in every row, IS THE sha256 OF THE DUMP (.gsa) THAT Qxb6602724aProg.lean LOADS. Nothing in Lean hashes anything: it is a label: what it is worth is what the hold of that sum in a sandbox is worth. -/
noncomputable def Try.pinned : Pinned := { name := "qxb6602724a", sum := "93d738d9bfdba23fd5c99efb6eae4f0fe831d65e90e543dcd16a77eacdf6aedf", checked := Try.checked }
namespace Rows
def none {H : Type} : Left H := { results := [], args := [] }

/-- 'zzlaws_orgunit_b1.FnSplitKeyLastSeparator': WHATEVER THE INPUT: true; the input reads as it did. -/
def fnSplitKeyLastSeparatorSpec : ChangeSpec := { name := "fnSplitKeyLastSeparator", fn := fun _ => fun
  | [d] => { results := [.lit (.bool true)], args := [d] }
  | _ => none }
def fnSplitKeyLastSeparatorRow : OpenClaim := { program := "qxb6602724a", sum := "93d738d9bfdba23fd5c99efb6eae4f0fe831d65e90e543dcd16a77eacdf6aedf", func := "example.com/orgspine/orgspine/zzlaws_orgunit_b1.FnSplitKeyLastSeparator", spec := "fnSplitKeyLastSeparator", apart := false }
def FnSplitKeyLastSeparatorSaid : Prop := fnSplitKeyLastSeparatorRow.holds Try.pinned (OpenSpec.ofChange fnSplitKeyLastSeparatorSpec)

/-- ITS FALSE NEIGHBOUR: 'it returns false'. Refute it at one input. -/
def fnSplitKeyLastSeparatorWrong : ChangeSpec := { name := "fnSplitKeyLastSeparator", fn := fun _ => fun
  | [d] => { results := [.lit (.bool false)], args := [d] }
  | _ => none }
def FnSplitKeyLastSeparatorWrongFalsely : Prop := fnSplitKeyLastSeparatorRow.holds Try.pinned (OpenSpec.ofChange fnSplitKeyLastSeparatorWrong)

/-- 'zzlaws_orgunit_b1.FnSplitKeyInvertsJoin': WHATEVER THE INPUT: true; the input reads as it did. -/
def fnSplitKeyInvertsJoinSpec : ChangeSpec := { name := "fnSplitKeyInvertsJoin", fn := fun _ => fun
  | [d1, d2] => { results := [.lit (.bool true)], args := [d1, d2] }
  | _ => none }
def fnSplitKeyInvertsJoinRow : OpenClaim := { program := "qxb6602724a", sum := "93d738d9bfdba23fd5c99efb6eae4f0fe831d65e90e543dcd16a77eacdf6aedf", func := "example.com/orgspine/orgspine/zzlaws_orgunit_b1.FnSplitKeyInvertsJoin", spec := "fnSplitKeyInvertsJoin", apart := false }
def FnSplitKeyInvertsJoinSaid : Prop := fnSplitKeyInvertsJoinRow.holds Try.pinned (OpenSpec.ofChange fnSplitKeyInvertsJoinSpec)

/-- ITS FALSE NEIGHBOUR: 'it returns false'. Refute it at one input. -/
def fnSplitKeyInvertsJoinWrong : ChangeSpec := { name := "fnSplitKeyInvertsJoin", fn := fun _ => fun
  | [d1, d2] => { results := [.lit (.bool false)], args := [d1, d2] }
  | _ => none }
def FnSplitKeyInvertsJoinWrongFalsely : Prop := fnSplitKeyInvertsJoinRow.holds Try.pinned (OpenSpec.ofChange fnSplitKeyInvertsJoinWrong)

/-- 'zzlaws_orgunit_b1.FnSplitKeyParentStaysUnderAncestor': WHATEVER THE INPUT: true; the input reads as it did. -/
def fnSplitKeyParentStaysUnderAncestorSpec : ChangeSpec := { name := "fnSplitKeyParentStaysUnderAncestor", fn := fun _ => fun
  | [d1, d2] => { results := [.lit (.bool true)], args := [d1, d2] }
  | _ => none }
def fnSplitKeyParentStaysUnderAncestorRow : OpenClaim := { program := "qxb6602724a", sum := "93d738d9bfdba23fd5c99efb6eae4f0fe831d65e90e543dcd16a77eacdf6aedf", func := "example.com/orgspine/orgspine/zzlaws_orgunit_b1.FnSplitKeyParentStaysUnderAncestor", spec := "fnSplitKeyParentStaysUnderAncestor", apart := false }
def FnSplitKeyParentStaysUnderAncestorSaid : Prop := fnSplitKeyParentStaysUnderAncestorRow.holds Try.pinned (OpenSpec.ofChange fnSplitKeyParentStaysUnderAncestorSpec)

/-- ITS FALSE NEIGHBOUR: 'it returns false'. Refute it at one input. -/
def fnSplitKeyParentStaysUnderAncestorWrong : ChangeSpec := { name := "fnSplitKeyParentStaysUnderAncestor", fn := fun _ => fun
  | [d1, d2] => { results := [.lit (.bool false)], args := [d1, d2] }
  | _ => none }
def FnSplitKeyParentStaysUnderAncestorWrongFalsely : Prop := fnSplitKeyParentStaysUnderAncestorRow.holds Try.pinned (OpenSpec.ofChange fnSplitKeyParentStaysUnderAncestorWrong)

end Rows
end Go.Proofs.Qxb6602724a
