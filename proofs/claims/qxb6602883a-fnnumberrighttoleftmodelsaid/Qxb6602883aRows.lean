/-
  No cell of these rows narrows 'for every input' (looked for: loops, veiled, ifaces, maps, wideKeys, modest, calm, conditions, laid).
  DERIVED. THE GIVEN ROWS OF THIS SEAT. 4 by the template 'for every input the law returns true; each argument reads behind the call as it read before'; 0 by the template 'total and deterministic' (their statements: Qxb6602883aTotals.lean).
  GIVEN WITH THE SEED: the statements are not yours to turn. If you find one false, say at which input.
  Laid BY PROGRAM, IN A SANDBOX (cutbox-rows.mjs): the forced cells as the released guide's own fill.sh prints them over the translation 1aec37e32d4938ac… (all of the seat's roots in one cut). By AI agents, Wed Nov 11 2026. No macro, syntax, notation, axiom, sorry.
-/
import Derived.Test.Qxb6602883aChecked
import GoSem.Claim
import GoSem.ClaimJoined
import GoSem.ClaimMapViews
import Derived.JoinedTies
import Derived.KernelRfl
namespace Go.Proofs.Qxb6602883a
/- THE CELL 'sum', in the pinned program and in every row, IS THE sha256 OF THE DUMP (.gsa) THAT Qxb6602883aProg.lean LOADS. Nothing in Lean hashes anything: it is a label: what it is worth is what the hold of that sum in a sandbox is worth. -/
noncomputable def Try.pinned : Pinned := { name := "qxb6602883a", sum := "1aec37e32d4938acae3627b9afb08c0ab24837577f2b41f90c9e6d25cfdcb65b", checked := Try.checked }
namespace Rows
def none {H : Type} : Left H := { results := [], args := [] }

/-- 'zzlaws_date_b1.FnFitsLayoutFieldModel': WHATEVER THE INPUT: true; the input reads as it did. -/
def fnFitsLayoutFieldModelSpec : ChangeSpec := { name := "fnFitsLayoutFieldModel", fn := fun _ => fun
  | [d] => { results := [.lit (.bool true)], args := [d] }
  | _ => none }
def fnFitsLayoutFieldModelRow : OpenClaim := { program := "qxb6602883a", sum := "1aec37e32d4938acae3627b9afb08c0ab24837577f2b41f90c9e6d25cfdcb65b", func := "example.com/vestline/vestline/zzlaws_date_b1.FnFitsLayoutFieldModel", spec := "fnFitsLayoutFieldModel", apart := false }
def FnFitsLayoutFieldModelSaid : Prop := fnFitsLayoutFieldModelRow.holds Try.pinned (OpenSpec.ofChange fnFitsLayoutFieldModelSpec)

/-- ITS FALSE NEIGHBOUR: 'it returns false'. Refute it at one input. -/
def fnFitsLayoutFieldModelWrong : ChangeSpec := { name := "fnFitsLayoutFieldModel", fn := fun _ => fun
  | [d] => { results := [.lit (.bool false)], args := [d] }
  | _ => none }
def FnFitsLayoutFieldModelWrongFalsely : Prop := fnFitsLayoutFieldModelRow.holds Try.pinned (OpenSpec.ofChange fnFitsLayoutFieldModelWrong)

/-- 'zzlaws_date_b1.FnFitsLayoutNumberRoundTrip': WHATEVER THE INPUT: true; the input reads as it did. -/
def fnFitsLayoutNumberRoundTripSpec : ChangeSpec := { name := "fnFitsLayoutNumberRoundTrip", fn := fun _ => fun
  | [d] => { results := [.lit (.bool true)], args := [d] }
  | _ => none }
def fnFitsLayoutNumberRoundTripRow : OpenClaim := { program := "qxb6602883a", sum := "1aec37e32d4938acae3627b9afb08c0ab24837577f2b41f90c9e6d25cfdcb65b", func := "example.com/vestline/vestline/zzlaws_date_b1.FnFitsLayoutNumberRoundTrip", spec := "fnFitsLayoutNumberRoundTrip", apart := false }
def FnFitsLayoutNumberRoundTripSaid : Prop := fnFitsLayoutNumberRoundTripRow.holds Try.pinned (OpenSpec.ofChange fnFitsLayoutNumberRoundTripSpec)

/-- ITS FALSE NEIGHBOUR: 'it returns false'. Refute it at one input. -/
def fnFitsLayoutNumberRoundTripWrong : ChangeSpec := { name := "fnFitsLayoutNumberRoundTrip", fn := fun _ => fun
  | [d] => { results := [.lit (.bool false)], args := [d] }
  | _ => none }
def FnFitsLayoutNumberRoundTripWrongFalsely : Prop := fnFitsLayoutNumberRoundTripRow.holds Try.pinned (OpenSpec.ofChange fnFitsLayoutNumberRoundTripWrong)

/-- 'zzlaws_date_b1.FnNumberRightToLeftModel': WHATEVER THE INPUT: true; the input reads as it did. -/
def fnNumberRightToLeftModelSpec : ChangeSpec := { name := "fnNumberRightToLeftModel", fn := fun _ => fun
  | [d] => { results := [.lit (.bool true)], args := [d] }
  | _ => none }
def fnNumberRightToLeftModelRow : OpenClaim := { program := "qxb6602883a", sum := "1aec37e32d4938acae3627b9afb08c0ab24837577f2b41f90c9e6d25cfdcb65b", func := "example.com/vestline/vestline/zzlaws_date_b1.FnNumberRightToLeftModel", spec := "fnNumberRightToLeftModel", apart := false }
def FnNumberRightToLeftModelSaid : Prop := fnNumberRightToLeftModelRow.holds Try.pinned (OpenSpec.ofChange fnNumberRightToLeftModelSpec)

/-- ITS FALSE NEIGHBOUR: 'it returns false'. Refute it at one input. -/
def fnNumberRightToLeftModelWrong : ChangeSpec := { name := "fnNumberRightToLeftModel", fn := fun _ => fun
  | [d] => { results := [.lit (.bool false)], args := [d] }
  | _ => none }
def FnNumberRightToLeftModelWrongFalsely : Prop := fnNumberRightToLeftModelRow.holds Try.pinned (OpenSpec.ofChange fnNumberRightToLeftModelWrong)

/-- 'zzlaws_date_b1.FnNumberConcat': WHATEVER THE INPUT: true; the input reads as it did. -/
def fnNumberConcatSpec : ChangeSpec := { name := "fnNumberConcat", fn := fun _ => fun
  | [d1, d2] => { results := [.lit (.bool true)], args := [d1, d2] }
  | _ => none }
def fnNumberConcatRow : OpenClaim := { program := "qxb6602883a", sum := "1aec37e32d4938acae3627b9afb08c0ab24837577f2b41f90c9e6d25cfdcb65b", func := "example.com/vestline/vestline/zzlaws_date_b1.FnNumberConcat", spec := "fnNumberConcat", apart := false }
def FnNumberConcatSaid : Prop := fnNumberConcatRow.holds Try.pinned (OpenSpec.ofChange fnNumberConcatSpec)

/-- ITS FALSE NEIGHBOUR: 'it returns false'. Refute it at one input. -/
def fnNumberConcatWrong : ChangeSpec := { name := "fnNumberConcat", fn := fun _ => fun
  | [d1, d2] => { results := [.lit (.bool false)], args := [d1, d2] }
  | _ => none }
def FnNumberConcatWrongFalsely : Prop := fnNumberConcatRow.holds Try.pinned (OpenSpec.ofChange fnNumberConcatWrong)

end Rows
end Go.Proofs.Qxb6602883a
