/- The proof of 'Rows.FnAllDigitsAcceptsUint64TextSaid': the frame is the given shell's, written by the kit's program for this function; the walk is filled by hand. The walk's end and the last row of 'lifted' are turned from 'Grown' to 'Below'. -/
import Derived.Test.Qxb6602958aRows
import Derived.Test.Qxb6602958aUitoa
import Derived.WalkKit
import Derived.ProofKit
import Derived.OpenShut
import Derived.ShutString
namespace Go.Proofs.Qxb6602958a.fnAllDigitsAcceptsUint64Text
open Go.ChangeShapes Go.WideShapes Go.ChangeAt Go.RowKit
open Go.ChangeMaps (open_string shut_string)
set_option linter.unusedVariables false      -- a walk need not use every 'w<i>' (that an integer argument fits its kind)

theorem own : ownKnob Try.prog.godebug = none := by kernel_rfl

theorem size_front (x : UInt8) (t : ByteArray) : (⟨#[x]⟩ ++ t : ByteArray).size = 1 + t.size := by
  simp
  rfl

theorem size_point (t : ByteArray) : (t ++ ⟨#[46, 53]⟩ : ByteArray).size = t.size + 2 := by
  simp
  rfl

/-! ### STEP 1: THE WALK: the Go text returns true. 'Below w.heap.size w w'': nothing that was there has turned (Derived/Below.lean); 'Grown' does not serve: the new row of '[]byte(s)' bears a mark. The row's step ends limb by limb for that reason. Part the cases AHEAD of 'go_enter' where a test parts the walk; take each callee by a contract of your own. -/
theorem walk (a0 : Int) (w0 : (Lit.int .u64 a0).wf = true) (w : World) :
    Calls Try.prog 4 #[.int .u64 a0] w fun e w' => e = .returned (.bool true) ∧ Below w.heap.size w w' := by
  have b0 := bounds_u64 w0
  go_enter Try.func4, Try.ntmps4
  go_wp2_with fail
  refine (uitoa_any a0 b0.1 b0.2 _).mono ?_
  rintro e w1 ⟨⟨t, rfl, ht, hsz⟩, hb1⟩
  have s1 : (⟨#[45]⟩ ++ t : ByteArray).size ≤ 4096 := by rw [size_front]; omega
  have s2 : (⟨#[43]⟩ ++ t : ByteArray).size ≤ 4096 := by rw [size_front]; omega
  have s3 : (t ++ ⟨#[46, 53]⟩ : ByteArray).size ≤ 4096 := by rw [size_point]; omega
  have f1 : adB (⟨#[45]⟩ ++ t) = false := ad_front 45 t (by decide)
  have f2 : adB (⟨#[43]⟩ ++ t) = false := ad_front 43 t (by decide)
  have f3 : adB (t ++ ⟨#[46, 53]⟩) = false := ad_point t
  have HB1 : Hid (Below w.heap.size w w1) := hb1
  clear hb1
  go_wp2_with fail
  refine (zzAllDigits_any _ ?_ _).mono ?_
  · omega
  rintro e w2 ⟨rfl, hb2⟩
  have HB2 : Hid (Below w.heap.size w w2) := HB1.out.trans (hb2.mono HB1.out.size)
  clear hb2
  go_wp2_with fail
  refine (zzAllDigits_any _ ?_ _).mono ?_
  · exact s1
  rintro e w3 ⟨rfl, hb3⟩
  have HB3 : Hid (Below w.heap.size w w3) := HB2.out.trans (hb3.mono HB2.out.size)
  clear hb3
  go_wp2_with fail
  refine (zzAllDigits_any _ ?_ _).mono ?_
  · exact s2
  rintro e w4 ⟨rfl, hb4⟩
  have HB4 : Hid (Below w.heap.size w w4) := HB3.out.trans (hb4.mono HB3.out.size)
  clear hb4
  go_wp2_with fail
  refine (zzAllDigits_any _ ?_ _).mono ?_
  · exact s3
  rintro e w5 ⟨rfl, hb5⟩
  have HB5 : Hid (Below w.heap.size w w5) := HB4.out.trans (hb5.mono HB4.out.size)
  clear hb5
  go_wp2_with fail
  go_ret
  exact ⟨rfl, HB5.out⟩

/-! ### THE ROW's STEP -/
set_option maxRecDepth 100000 in
theorem lifted (os : Os) (started : os.Started) (H : Type) (enc : TypeId × Value → H) :
    ReturnsInHanded {} Try.checked os 4 .any (Rows.fnAllDigitsAcceptsUint64TextSpec.pre6 enc Try.prog Try.f4 Rows.fnAllDigitsAcceptsUint64TextRow.domain false) (Rows.fnAllDigitsAcceptsUint64TextSpec.post enc Try.prog Try.f4 false true false false) := by
  refine returnsInHanded_of_change (C := Try.checked) own started (by kernel_rfl) Try.func4
    (ChangeSpec.witness6 (enc := enc) (C := Try.checked) false ⟨#[], #[.int .u64 0], []⟩ 8 (by kernel_rfl) (by kernel_rfl) (by kernel_rfl) (by kernel_rfl)) ?_
  intro W base args ds gs before hval0 hW hcnd _
  have hval : ∀ (j : Nat) t v, Try.f4.params[j]? = some t → args[j]? = some v → Value.okWide Try.prog W .any base t v := hval0
  have hW' := hW
  obtain ⟨p, q, hA0, hV, rfl, hfz, hnd⟩ := hW
  have hA : DataW.TrodAll enc Try.prog W 0 (fun _ => true) true Try.f4.params.toList args.toList ds p := hA0
  rw [Try.params4] at hA hval
  obtain ⟨v0, vs0, d0, ds0, p0, q0, hargs, rfl, rfl, h0, r0⟩ := trodAll_cons hA
  obtain ⟨rfl, rfl, rfl⟩ := trodAll_nil r0
  obtain rfl : args = #[v0] := by cases args; simp_all
  obtain ⟨rfl, rfl⟩ := trodVars_none hV
  obtain ⟨a0, rfl, rfl, rfl, w0⟩ := open_int Try.underlying24 (hval 0 24 v0 rfl rfl) h0
  clear hA0 hval0
  simp only [List.append_nil] at hW'
  refine (walk a0 w0 W).mono fun e W' ⟨he, hg⟩ => ?_
  subst he
  exact ⟨_, rfl, _, _, _, [], [], [], hW', trodAll_mk1 (shut_bool Try.underlying4 _), (trodAll_cons_mk (shut_int Try.underlying24 w0) trodAll_mk0), rfl, hg.frame _, fun h => by cases h⟩

theorem over : Rows.fnAllDigitsAcceptsUint64TextRow.holds Try.pinned (OpenSpec.ofChange Rows.fnAllDigitsAcceptsUint64TextSpec) :=
  OpenClaim.holds_of_wide 4 Try.f4 rfl rfl rfl rfl rfl rfl rfl ⟨rfl, rfl, rfl, rfl, rfl⟩ rfl rfl rfl rfl rfl (by kernel_rfl) Try.func4 (by kernel_rfl)
    (of_decide_eq_true (by kernel_rfl)) (by unfold Func.isWrapper; first | (rw [if_pos (by decide +kernel)]; kernel_rfl) | (rw [if_neg (by decide +kernel)]; exact ⟨rfl, rfl⟩))
    (fun os started H enc _ => lifted os started H enc)

/-- ████ THE STATEMENT ████ -/
theorem proved : Rows.FnAllDigitsAcceptsUint64TextSaid :=
  over
end Go.Proofs.Qxb6602958a.fnAllDigitsAcceptsUint64Text
