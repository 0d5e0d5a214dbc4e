/- The proof of 'Rows.FnSplitKeyParentStaysUnderAncestorSaid': the frame is the given shell's, written by the kit's program for this function; the walk is filled by hand. -/
import Derived.Test.Qxb6602724aRows
import Derived.Test.Qxb6602724aSplitWalks
import Derived.WalkKit
import Derived.ProofKit
import Derived.OpenShut
import Derived.ShutString
namespace Go.Proofs.Qxb6602724a.fnSplitKeyParentStaysUnderAncestor
open Go.ChangeShapes Go.WideShapes Go.ChangeAt Go.RowKit
open Go.ChangeMaps (open_string shut_string)
set_option linter.unusedVariables false      -- a walk need not use every 'w<i>' (that an integer argument fits its kind)

theorem own : ownKnob Try.prog.godebug = none := by kernel_rfl

/-- Too long: the law's own bounds answer true at once. -/
theorem walk_long (a0 : ByteArray) (a1 : ByteArray) (w0 : a0.size ≤ 9223372036854775807) (w1 : a1.size ≤ 9223372036854775807) (w : World) (h : (1048576 : Int) < (a0.size : Int) + (a1.size : Int) ∨ (524288 : Int) < (a0.size : Int) ∨ (524288 : Int) < (a1.size : Int)) :
    Calls Try.prog 5 #[.string a0, .string a1] w fun e w' => e = .returned (.bool true) ∧ Grown w w' := by
  by_cases hA : (1048576 : Int) < (a0.size : Int)
  · go_enter Try.func5, Try.ntmps5
    go_wp2
    go_ret
    exact ⟨rfl, Grown.refl _⟩
  by_cases hB : (1048576 : Int) < (a1.size : Int)
  · go_enter Try.func5, Try.ntmps5
    go_wp2
    go_ret
    exact ⟨rfl, Grown.refl _⟩
  by_cases hC : (1048576 : Int) < (a0.size : Int) + (a1.size : Int)
  · go_enter Try.func5, Try.ntmps5
    go_wp2
    go_ret
    exact ⟨rfl, Grown.refl _⟩
  by_cases hD : (524288 : Int) < (a0.size : Int)
  · go_enter Try.func5, Try.ntmps5
    go_wp2
    go_ret
    exact ⟨rfl, Grown.refl _⟩
  have hE : (524288 : Int) < (a1.size : Int) := by omega
  clear h
  go_enter Try.func5, Try.ntmps5
  go_wp2
  go_ret
  exact ⟨rfl, Grown.refl _⟩

/-- The key does not lie below the ancestor: the law says nothing. -/
theorem walk_off (a0 : ByteArray) (a1 : ByteArray) (w : World) (hA : (a0.size : Int) ≤ 524288) (hB : (a1.size : Int) ≤ 524288) (hC : (a0.size : Int) + (a1.size : Int) ≤ 1048576) (hs : a1.size ≤ 4194304) (hz : (a0 ++ ⟨#[32]⟩).size ≤ 4194304) (hpre : prefB a1 (a0 ++ ⟨#[32]⟩) = false) :
    Calls Try.prog 5 #[.string a0, .string a1] w fun e w' => e = .returned (.bool true) ∧ Grown w w' := by
  go_enter Try.func5, Try.ntmps5
  go_wp2_with (first | (go_at_call 10; go_in))
  refine (hasPrefix_any _ _ hs ?_ _).mono ?_
  · exact hz
  rintro e w' ⟨rfl, n, rfl⟩
  go_wp2
  go_ret
  exact ⟨rfl, grown_drewN _ _⟩

/-- The key lies below the ancestor. -/
theorem walk_on (a0 : ByteArray) (a1 : ByteArray) (w : World) (hA : (a0.size : Int) ≤ 524288) (hB : (a1.size : Int) ≤ 524288) (hC : (a0.size : Int) + (a1.size : Int) ≤ 1048576) (hs : a1.size ≤ 4194304) (hz : (a0 ++ ⟨#[32]⟩).size ≤ 4194304) (hpre : prefB a1 (a0 ++ ⟨#[32]⟩) = true) :
    Calls Try.prog 5 #[.string a0, .string a1] w fun e w' => e = .returned (.bool true) ∧ Grown w w' := by
  go_enter Try.func5, Try.ntmps5
  go_wp2_with (first | (go_at_call 10; go_in))
  refine (hasPrefix_any _ _ hs ?_ _).mono ?_
  · exact hz
  rintro e w' ⟨rfl, n, rfl⟩
  go_wp2_with fail
  refine (zzSplitKey_any _ hs _).mono ?_
  rintro e w' ⟨⟨p, c, rfl, hq⟩, m, rfl⟩
  obtain ⟨hpa, hlt⟩ := split_below a0 a1 p c hpre hq
  have hlti : (p.size : Int) < (a1.size : Int) := by omega
  clear hq
  by_cases hpeq : p = a0
  · subst hpeq
    clear hpa
    go_wp2_with fail
    go_ret
    exact ⟨rfl, grown_drewN _ _⟩
  · have hpp : prefB p (a0 ++ ⟨#[32]⟩) = true := by rcases hpa with h | h; exact absurd h hpeq; exact h
    have hne := ne_of p a0 hpeq
    have hps : p.size ≤ 4194304 := by omega
    clear hpa hpeq
    go_wp2_with fail
    refine (hasPrefix_any _ _ hps ?_ _).mono ?_
    · exact hz
    rintro e w' ⟨rfl, k, rfl⟩
    go_wp2
    go_ret
    exact ⟨rfl, grown_drewN _ _⟩

/-! ### STEP 1: THE WALK: the Go text returns true. 'Grown w w'': the world has at most new blocks (Derived/RowKit3.lean). Part the cases AHEAD of 'go_enter' where a test parts the walk; take each callee by a contract of your own. -/
theorem walk (a0 : ByteArray) (a1 : ByteArray) (w0 : a0.size ≤ maxLen) (w1 : a1.size ≤ maxLen) (w : World) :
    Calls Try.prog 5 #[.string a0, .string a1] w fun e w' => e = .returned (.bool true) ∧ Grown w w' := by
  unfold maxLen at w0 w1
  by_cases h : (1048576 : Int) < (a0.size : Int) + (a1.size : Int) ∨ (524288 : Int) < (a0.size : Int) ∨ (524288 : Int) < (a1.size : Int)
  · exact walk_long a0 a1 (by omega) (by omega) w h
  · have hz : (a0 ++ ⟨#[32]⟩).size ≤ 4194304 := by rw [size_pre]; omega
    by_cases hpre : prefB a1 (a0 ++ ⟨#[32]⟩) = true
    · exact walk_on a0 a1 w (by omega) (by omega) (by omega) (by omega) hz hpre
    · exact walk_off a0 a1 w (by omega) (by omega) (by omega) (by omega) hz (by simpa using hpre)

/-! ### THE ROW's STEP: WRITTEN OUT: LEAVE IT -/
set_option maxRecDepth 100000 in
theorem lifted (os : Os) (started : os.Started) (H : Type) (enc : TypeId × Value → H) :
    ReturnsInHanded {} Try.checked os 5 .any (Rows.fnSplitKeyParentStaysUnderAncestorSpec.pre6 enc Try.prog Try.f5 Rows.fnSplitKeyParentStaysUnderAncestorRow.domain false) (Rows.fnSplitKeyParentStaysUnderAncestorSpec.post enc Try.prog Try.f5 false true false false) := by
  refine returnsInHanded_of_change (C := Try.checked) own started (by kernel_rfl) Try.func5
    (ChangeSpec.witness6 (enc := enc) (C := Try.checked) false ⟨#[], #[.string ByteArray.empty, .string ByteArray.empty], []⟩ 8 (by kernel_rfl) (by kernel_rfl) (by kernel_rfl) (by kernel_rfl)) ?_
  intro W base args ds gs before hval0 hW hcnd _
  have hval : ∀ (j : Nat) t v, Try.f5.params[j]? = some t → args[j]? = some v → Value.okWide Try.prog W .any base t v := hval0
  have hW' := hW
  obtain ⟨p, q, hA0, hV, rfl, hfz, hnd⟩ := hW
  have hA : DataW.TrodAll enc Try.prog W 0 (fun _ => true) true Try.f5.params.toList args.toList ds p := hA0
  rw [Try.params5] at hA hval
  obtain ⟨v0, vs0, d0, ds0, p0, q0, hargs, rfl, rfl, h0, r0⟩ := trodAll_cons hA
  obtain ⟨v1, vs1, d1, ds1, p1, q1, rfl, rfl, rfl, h1, r1⟩ := trodAll_cons r0
  obtain ⟨rfl, rfl, rfl⟩ := trodAll_nil r1
  obtain rfl : args = #[v0, v1] := by cases args; simp_all
  obtain ⟨rfl, rfl⟩ := trodVars_none hV
  obtain ⟨a0, rfl, rfl, rfl, w0⟩ := open_string Try.underlying9 (hval 0 9 v0 rfl rfl) h0
  obtain ⟨a1, rfl, rfl, rfl, w1⟩ := open_string Try.underlying9 (hval 1 9 v1 rfl rfl) h1
  clear hA0 hval0
  simp only [List.append_nil] at hW'
  refine (walk a0 a1 w0 w1 W).mono fun e W' ⟨he, hg⟩ => ?_
  subst he
  exact ⟨_, rfl, post_of_same (pa := []) (pv := []) hW' (fun _ _ _ => (trodAll_cons_mk (shut_bool Try.underlying4 _) trodAll_mk0)) (fun sp _ => (trodAll_cons_mk (shut_string Try.underlying9 w0) (trodAll_cons_mk (shut_string Try.underlying9 w1) trodAll_mk0))) (fun _ _ => rfl) rfl
    (hg.frame _) hg.2.1 (ok_one (by kernel_rfl) rfl (okWide_bool_mk Try.underlying4 _))⟩

theorem over : Rows.fnSplitKeyParentStaysUnderAncestorRow.holds Try.pinned (OpenSpec.ofChange Rows.fnSplitKeyParentStaysUnderAncestorSpec) :=
  OpenClaim.holds_of_wide 5 Try.f5 rfl rfl rfl rfl rfl rfl rfl ⟨rfl, rfl, rfl, rfl, rfl⟩ rfl rfl rfl rfl rfl (by kernel_rfl) Try.func5 (by kernel_rfl)
    (of_decide_eq_true (by kernel_rfl)) (by unfold Func.isWrapper; first | (rw [if_pos (by decide +kernel)]; kernel_rfl) | (rw [if_neg (by decide +kernel)]; exact ⟨rfl, rfl⟩))
    (fun os started H enc _ => lifted os started H enc)

/-- ████ THE STATEMENT ████ -/
theorem proved : Rows.FnSplitKeyParentStaysUnderAncestorSaid :=
  over
end Go.Proofs.Qxb6602724a.fnSplitKeyParentStaysUnderAncestor
