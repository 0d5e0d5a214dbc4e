/- The proof of 'Rows.FnNumberRightToLeftModelSaid': the frame is the given shell's, written by the kit's program for this function; the walk is filled by hand. -/
import Derived.Test.Qxb6602883aRows
import Derived.Test.Qxb6602883aNumWalks
import Derived.WalkKit
import Derived.ProofKit
import Derived.OpenShut
import Derived.ShutString
namespace Go.Proofs.Qxb6602883a.fnNumberRightToLeftModel
open Go.ChangeShapes Go.WideShapes Go.ChangeAt Go.RowKit
open Go.ChangeMaps (open_string shut_string)
set_option linter.unusedVariables false      -- a walk need not use every 'w<i>' (that an integer argument fits its kind)

theorem own : ownKnob Try.prog.godebug = none := by kernel_rfl

set_option maxHeartbeats 400000 in
/-- The key's length is within the law's bound. -/
theorem walk_short (s : ByteArray) (hs : s.size ≤ 1048576) (w : World) :
    Calls Try.prog 5 #[.string s] w fun e w' => e = .returned (.bool true) ∧ Grown w w' := by
  have hsi : ¬ (1048576 : Int) < (s.size : Int) := by omega
  have hsd : decide ((1048576 : Int) < (s.size : Int)) = false := by simpa using hsi
  go_enter Try.func5, Try.ntmps5
  go_wp2_with (go_at_call 13; refine (bytes_any _ hsi _).mono ?_; rintro e w' ⟨rfl, rfl⟩)
  go_loop [3, 4, 5] (fun n p i => ∃ (k : Nat) (x y : Int), k ≤ s.size ∧ i = .int .i64 ((k : Int) - 1) ∧ n = .int .i64 x ∧ p = .int .i64 y ∧ Hid (x = wrap64 (num (s.data.toList.drop k))) ∧ Hid (y = wrap64 (10 ^ (s.size - k)))) (fun _ _ i => ((intOf i) + 1).toNat)
  case atStart => exact ⟨s.size, 0, 1, Nat.le_refl _, rfl, rfl, rfl, by show (0 : Int) = _; rw [List.drop_of_length_le (by simp)]; exact wrap_zero, by show (1 : Int) = _; rw [Nat.sub_self]; exact wrap_one⟩
  case round =>
    obtain ⟨k, x, y, hk, rfl, rfl, rfl, hx, hy⟩ := hrel
    by_cases hlt : 1 ≤ k
    · obtain ⟨j, rfl⟩ : ∃ j, k = j + 1 := ⟨k - 1, by omega⟩
      go_wp2
      · have hd : wrap64 (wrap64 (s[j].toNat : Int) - 48) < 0 := by assumption
        go_round
        case rel => exact ⟨j, _, _, by omega, rfl, rfl, rfl, by show _ = _; rw [dv_lo _ hd]; exact right_step s j hk hx.out hy.out, right_pow s.size j hk hy.out⟩
        case measure => simp [intOf]
      · have hd : 0 ≤ wrap64 (wrap64 (s[j].toNat : Int) - 48) := by assumption
        go_round
        case rel => exact ⟨j, _, _, by omega, rfl, rfl, rfl, by show _ = _; rw [dv_hi _ hd]; exact right_step s j hk hx.out hy.out, right_pow s.size j hk hy.out⟩
        case measure => simp [intOf]
    · have hk0 : k = 0 := by omega
      subst hk0
      go_wp2_with (go_at_call 11; refine (zzNumber_any _ hs _).mono ?_; rintro e w' ⟨rfl, rfl⟩)
      go_ret
      exact ⟨ret_bool (by rw [beq_iff_eq, hx.out, List.drop_zero]; rfl), Grown.refl _⟩

/-! ### STEP 1: THE WALK: the Go text returns true. 'Grown w w'': the world has at most new blocks (Derived/RowKit3.lean). Part the cases AHEAD of 'go_enter' where a test parts the walk; take each callee by a contract of your own. -/
theorem walk (a0 : ByteArray) (w0 : a0.size ≤ maxLen) (w : World) :
    Calls Try.prog 5 #[.string a0] w fun e w' => e = .returned (.bool true) ∧ Grown w w' := by
  unfold maxLen at w0
  by_cases hbig : (1048576 : Int) < (a0.size : Int)
  · go_enter Try.func5, Try.ntmps5
    go_wp2
    go_ret
    exact ⟨rfl, Grown.refl _⟩
  · have hs : a0.size ≤ 1048576 := by omega
    exact walk_short a0 hs w

/-! ### THE ROW's STEP: WRITTEN OUT: LEAVE IT -/
set_option maxRecDepth 100000 in
theorem lifted (os : Os) (started : os.Started) (H : Type) (enc : TypeId × Value → H) :
    ReturnsInHanded {} Try.checked os 5 .any (Rows.fnNumberRightToLeftModelSpec.pre6 enc Try.prog Try.f5 Rows.fnNumberRightToLeftModelRow.domain false) (Rows.fnNumberRightToLeftModelSpec.post enc Try.prog Try.f5 false true false false) := by
  refine returnsInHanded_of_change (C := Try.checked) own started (by kernel_rfl) Try.func5
    (ChangeSpec.witness6 (enc := enc) (C := Try.checked) false ⟨#[], #[.string ByteArray.empty], []⟩ 8 (by kernel_rfl) (by kernel_rfl) (by kernel_rfl) (by kernel_rfl)) ?_
  intro W base args ds gs before hval0 hW hcnd _
  have hval : ∀ (j : Nat) t v, Try.f5.params[j]? = some t → args[j]? = some v → Value.okWide Try.prog W .any base t v := hval0
  have hW' := hW
  obtain ⟨p, q, hA0, hV, rfl, hfz, hnd⟩ := hW
  have hA : DataW.TrodAll enc Try.prog W 0 (fun _ => true) true Try.f5.params.toList args.toList ds p := hA0
  rw [Try.params5] at hA hval
  obtain ⟨v0, vs0, d0, ds0, p0, q0, hargs, rfl, rfl, h0, r0⟩ := trodAll_cons hA
  obtain ⟨rfl, rfl, rfl⟩ := trodAll_nil r0
  obtain rfl : args = #[v0] := by cases args; simp_all
  obtain ⟨rfl, rfl⟩ := trodVars_none hV
  obtain ⟨a0, rfl, rfl, rfl, w0⟩ := open_string Try.underlying9 (hval 0 9 v0 rfl rfl) h0
  clear hA0 hval0
  simp only [List.append_nil] at hW'
  refine (walk a0 w0 W).mono fun e W' ⟨he, hg⟩ => ?_
  subst he
  exact ⟨_, rfl, post_of_same (pa := []) (pv := []) hW' (fun _ _ _ => (trodAll_cons_mk (shut_bool Try.underlying4 _) trodAll_mk0)) (fun sp _ => (trodAll_cons_mk (shut_string Try.underlying9 w0) trodAll_mk0)) (fun _ _ => rfl) rfl
    (hg.frame _) hg.2.1 (ok_one (by kernel_rfl) rfl (okWide_bool_mk Try.underlying4 _))⟩

theorem over : Rows.fnNumberRightToLeftModelRow.holds Try.pinned (OpenSpec.ofChange Rows.fnNumberRightToLeftModelSpec) :=
  OpenClaim.holds_of_wide 5 Try.f5 rfl rfl rfl rfl rfl rfl rfl ⟨rfl, rfl, rfl, rfl, rfl⟩ rfl rfl rfl rfl rfl (by kernel_rfl) Try.func5 (by kernel_rfl)
    (of_decide_eq_true (by kernel_rfl)) (by unfold Func.isWrapper; first | (rw [if_pos (by decide +kernel)]; kernel_rfl) | (rw [if_neg (by decide +kernel)]; exact ⟨rfl, rfl⟩))
    (fun os started H enc _ => lifted os started H enc)

/-- ████ THE STATEMENT ████ -/
theorem proved : Rows.FnNumberRightToLeftModelSaid :=
  over
end Go.Proofs.Qxb6602883a.fnNumberRightToLeftModel
