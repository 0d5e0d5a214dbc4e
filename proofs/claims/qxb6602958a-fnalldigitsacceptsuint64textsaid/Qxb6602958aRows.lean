/-
  No cell of these rows narrows 'for every input' (looked for: loops, veiled, ifaces, maps, wideKeys, modest, calm, conditions, laid).
  DERIVED. THE GIVEN ROWS OF THIS SEAT. 6 by the template 'for every input the law returns true; each argument reads behind the call as it read before'; 0 by the template 'total and deterministic' (their statements: Qxb6602958aTotals.lean).
  GIVEN WITH THE SEED: the statements are not yours to turn. If you find one false, say at which input.
  Laid BY PROGRAM, IN A SANDBOX (cutbox-rows.mjs): the forced cells as the released guide's own fill.sh prints them over the translation b757dd8cf5e3052a… (all of the seat's roots in one cut). By AI agents, Wed Nov 11 2026. No macro, syntax, notation, axiom, sorry.
-/
import Derived.Test.Qxb6602958aChecked
import GoSem.Claim
import GoSem.ClaimJoined
import GoSem.ClaimMapViews
import Derived.JoinedTies
import Derived.KernelRfl
namespace Go.Proofs.Qxb6602958a
/- THE CELL 'sum', in the pinned program and in every row, IS THE sha256 OF THE DUMP (.gsa) THAT Qxb6602958aProg.lean LOADS. Nothing in Lean hashes anything: it is a label: what it is worth is what the hold of that sum in a sandbox is worth. -/
noncomputable def Try.pinned : Pinned := { name := "qxb6602958a", sum := "b757dd8cf5e3052a09c4258fc3ecfda7074fab74d3d820469a52e1f10be70825", checked := Try.checked }
namespace Rows
def none {H : Type} : Left H := { results := [], args := [] }

/-- 'zzlaws_decimal_b1.FnAllDigitsOfConcatenation': WHATEVER THE INPUT: true; the input reads as it did. -/
def fnAllDigitsOfConcatenationSpec : ChangeSpec := { name := "fnAllDigitsOfConcatenation", fn := fun _ => fun
  | [d1, d2] => { results := [.lit (.bool true)], args := [d1, d2] }
  | _ => none }
def fnAllDigitsOfConcatenationRow : OpenClaim := { program := "qxb6602958a", sum := "b757dd8cf5e3052a09c4258fc3ecfda7074fab74d3d820469a52e1f10be70825", func := "example.com/gensaki/gensaki/zzlaws_decimal_b1.FnAllDigitsOfConcatenation", spec := "fnAllDigitsOfConcatenation", apart := false }
def FnAllDigitsOfConcatenationSaid : Prop := fnAllDigitsOfConcatenationRow.holds Try.pinned (OpenSpec.ofChange fnAllDigitsOfConcatenationSpec)

/-- ITS FALSE NEIGHBOUR: 'it returns false'. Refute it at one input. -/
def fnAllDigitsOfConcatenationWrong : ChangeSpec := { name := "fnAllDigitsOfConcatenation", fn := fun _ => fun
  | [d1, d2] => { results := [.lit (.bool false)], args := [d1, d2] }
  | _ => none }
def FnAllDigitsOfConcatenationWrongFalsely : Prop := fnAllDigitsOfConcatenationRow.holds Try.pinned (OpenSpec.ofChange fnAllDigitsOfConcatenationWrong)

/-- 'zzlaws_decimal_b1.FnAllDigitsAcceptsUint64Text': WHATEVER THE INPUT: true; the input reads as it did. -/
def fnAllDigitsAcceptsUint64TextSpec : ChangeSpec := { name := "fnAllDigitsAcceptsUint64Text", fn := fun _ => fun
  | [d] => { results := [.lit (.bool true)], args := [d] }
  | _ => none }
def fnAllDigitsAcceptsUint64TextRow : OpenClaim := { program := "qxb6602958a", sum := "b757dd8cf5e3052a09c4258fc3ecfda7074fab74d3d820469a52e1f10be70825", func := "example.com/gensaki/gensaki/zzlaws_decimal_b1.FnAllDigitsAcceptsUint64Text", spec := "fnAllDigitsAcceptsUint64Text", apart := false }
def FnAllDigitsAcceptsUint64TextSaid : Prop := fnAllDigitsAcceptsUint64TextRow.holds Try.pinned (OpenSpec.ofChange fnAllDigitsAcceptsUint64TextSpec)

/-- ITS FALSE NEIGHBOUR: 'it returns false'. Refute it at one input. -/
def fnAllDigitsAcceptsUint64TextWrong : ChangeSpec := { name := "fnAllDigitsAcceptsUint64Text", fn := fun _ => fun
  | [d] => { results := [.lit (.bool false)], args := [d] }
  | _ => none }
def FnAllDigitsAcceptsUint64TextWrongFalsely : Prop := fnAllDigitsAcceptsUint64TextRow.holds Try.pinned (OpenSpec.ofChange fnAllDigitsAcceptsUint64TextWrong)

/-- 'zzlaws_decimal_b1.FnSumPlacesCommutativeAssociativeIdempotent': WHATEVER THE INPUT: true; the input reads as it did. -/
def fnSumPlacesCommutativeAssociativeIdempotentSpec : ChangeSpec := { name := "fnSumPlacesCommutativeAssociativeIdempotent", fn := fun _ => fun
  | [d1, d2, d3] => { results := [.lit (.bool true)], args := [d1, d2, d3] }
  | _ => none }
def fnSumPlacesCommutativeAssociativeIdempotentRow : OpenClaim := { program := "qxb6602958a", sum := "b757dd8cf5e3052a09c4258fc3ecfda7074fab74d3d820469a52e1f10be70825", func := "example.com/gensaki/gensaki/zzlaws_decimal_b1.FnSumPlacesCommutativeAssociativeIdempotent", spec := "fnSumPlacesCommutativeAssociativeIdempotent", apart := false }
def FnSumPlacesCommutativeAssociativeIdempotentSaid : Prop := fnSumPlacesCommutativeAssociativeIdempotentRow.holds Try.pinned (OpenSpec.ofChange fnSumPlacesCommutativeAssociativeIdempotentSpec)

/-- ITS FALSE NEIGHBOUR: 'it returns false'. Refute it at one input. -/
def fnSumPlacesCommutativeAssociativeIdempotentWrong : ChangeSpec := { name := "fnSumPlacesCommutativeAssociativeIdempotent", fn := fun _ => fun
  | [d1, d2, d3] => { results := [.lit (.bool false)], args := [d1, d2, d3] }
  | _ => none }
def FnSumPlacesCommutativeAssociativeIdempotentWrongFalsely : Prop := fnSumPlacesCommutativeAssociativeIdempotentRow.holds Try.pinned (OpenSpec.ofChange fnSumPlacesCommutativeAssociativeIdempotentWrong)

/-- 'zzlaws_decimal_b1.FnRestOfMatchesWideDoubling': WHATEVER THE INPUT: true; the input reads as it did. -/
def fnRestOfMatchesWideDoublingSpec : ChangeSpec := { name := "fnRestOfMatchesWideDoubling", fn := fun _ => fun
  | [d1, d2] => { results := [.lit (.bool true)], args := [d1, d2] }
  | _ => none }
def fnRestOfMatchesWideDoublingRow : OpenClaim := { program := "qxb6602958a", sum := "b757dd8cf5e3052a09c4258fc3ecfda7074fab74d3d820469a52e1f10be70825", func := "example.com/gensaki/gensaki/zzlaws_decimal_b1.FnRestOfMatchesWideDoubling", spec := "fnRestOfMatchesWideDoubling", apart := false }
def FnRestOfMatchesWideDoublingSaid : Prop := fnRestOfMatchesWideDoublingRow.holds Try.pinned (OpenSpec.ofChange fnRestOfMatchesWideDoublingSpec)

/-- ITS FALSE NEIGHBOUR: 'it returns false'. Refute it at one input. -/
def fnRestOfMatchesWideDoublingWrong : ChangeSpec := { name := "fnRestOfMatchesWideDoubling", fn := fun _ => fun
  | [d1, d2] => { results := [.lit (.bool false)], args := [d1, d2] }
  | _ => none }
def FnRestOfMatchesWideDoublingWrongFalsely : Prop := fnRestOfMatchesWideDoublingRow.holds Try.pinned (OpenSpec.ofChange fnRestOfMatchesWideDoublingWrong)

/-- 'zzlaws_decimal_b1.FnRestOfMonotoneInRemainder': WHATEVER THE INPUT: true; the input reads as it did. -/
def fnRestOfMonotoneInRemainderSpec : ChangeSpec := { name := "fnRestOfMonotoneInRemainder", fn := fun _ => fun
  | [d1, d2, d3] => { results := [.lit (.bool true)], args := [d1, d2, d3] }
  | _ => none }
def fnRestOfMonotoneInRemainderRow : OpenClaim := { program := "qxb6602958a", sum := "b757dd8cf5e3052a09c4258fc3ecfda7074fab74d3d820469a52e1f10be70825", func := "example.com/gensaki/gensaki/zzlaws_decimal_b1.FnRestOfMonotoneInRemainder", spec := "fnRestOfMonotoneInRemainder", apart := false }
def FnRestOfMonotoneInRemainderSaid : Prop := fnRestOfMonotoneInRemainderRow.holds Try.pinned (OpenSpec.ofChange fnRestOfMonotoneInRemainderSpec)

/-- ITS FALSE NEIGHBOUR: 'it returns false'. Refute it at one input. -/
def fnRestOfMonotoneInRemainderWrong : ChangeSpec := { name := "fnRestOfMonotoneInRemainder", fn := fun _ => fun
  | [d1, d2, d3] => { results := [.lit (.bool false)], args := [d1, d2, d3] }
  | _ => none }
def FnRestOfMonotoneInRemainderWrongFalsely : Prop := fnRestOfMonotoneInRemainderRow.holds Try.pinned (OpenSpec.ofChange fnRestOfMonotoneInRemainderWrong)

/-- 'zzlaws_decimal_b1.FnRestOfComplement': WHATEVER THE INPUT: true; the input reads as it did. -/
def fnRestOfComplementSpec : ChangeSpec := { name := "fnRestOfComplement", fn := fun _ => fun
  | [d1, d2] => { results := [.lit (.bool true)], args := [d1, d2] }
  | _ => none }
def fnRestOfComplementRow : OpenClaim := { program := "qxb6602958a", sum := "b757dd8cf5e3052a09c4258fc3ecfda7074fab74d3d820469a52e1f10be70825", func := "example.com/gensaki/gensaki/zzlaws_decimal_b1.FnRestOfComplement", spec := "fnRestOfComplement", apart := false }
def FnRestOfComplementSaid : Prop := fnRestOfComplementRow.holds Try.pinned (OpenSpec.ofChange fnRestOfComplementSpec)

/-- ITS FALSE NEIGHBOUR: 'it returns false'. Refute it at one input. -/
def fnRestOfComplementWrong : ChangeSpec := { name := "fnRestOfComplement", fn := fun _ => fun
  | [d1, d2] => { results := [.lit (.bool false)], args := [d1, d2] }
  | _ => none }
def FnRestOfComplementWrongFalsely : Prop := fnRestOfComplementRow.holds Try.pinned (OpenSpec.ofChange fnRestOfComplementWrong)

end Rows
end Go.Proofs.Qxb6602958a
