/- The walks of sumPlaces and restOf, by contracts; the plain laws on them. -/
import Derived.Test.Qxb6602958aRows
import Derived.WalkKit
import Derived.WalkSpells
import Derived.WalkLawsBesides
namespace Go.Proofs.Qxb6602958a
open Go.RowKit

theorem ret_int {k : IntKind} {a b : Int} (h : a = b) : Ending.returned (.int k a) = .returned (.int k b) := by rw [h]

/-- What sumPlaces answers: -1 stands for a value without a fixed count of decimals. -/
def sp (a b : Int) : Int := if a = -1 then -1 else if b = -1 then -1 else if a < b then b else a

theorem sp_comm (a b : Int) : sp a b = sp b a := by
  unfold sp
  repeat' split
  all_goals omega

theorem sp_assoc (a b c : Int) : sp (sp a b) c = sp a (sp b c) := by
  unfold sp
  repeat' split
  all_goals omega

theorem sp_self (a : Int) : sp a a = a := by
  unfold sp
  repeat' split
  all_goals omega

/-- decimal.sumPlaces -/
theorem sumPlaces_any (a b : Int) (w : World) :
    Calls Try.prog 15 #[.int .i64 a, .int .i64 b] w fun e w' => e = .returned (.int .i64 (sp a b)) ∧ w' = w := by
  by_cases ha : a = -1
  · subst ha
    go_enter Try.func15, Try.ntmps15
    go_wp2
    go_ret
    exact ⟨ret_int (by simp [sp]), rfl⟩
  · have ha' : (a == -1) = false := by simpa using ha
    by_cases hb : b = -1
    · subst hb
      have H : Hid (sp a (-1) = -1) := by show _ = _; simp [sp]
      clear ha
      go_enter Try.func15, Try.ntmps15
      go_wp2
      go_ret
      exact ⟨ret_int H.out.symm, rfl⟩
    · have hb' : (b == -1) = false := by simpa using hb
      have H : Hid (sp a b = if a < b then b else a) := by show _ = _; simp [sp, ha, hb]
      clear ha hb
      go_enter Try.func15, Try.ntmps15
      go_wp2
      · have hlt : a < b := by assumption
        go_ret
        exact ⟨ret_int (by rw [H.out, if_pos hlt]), rfl⟩
      · have hge : b ≤ a := by assumption
        go_ret
        exact ⟨ret_int (by rw [H.out, if_neg (by omega)]), rfl⟩

/-- decimal.ZZsumPlaces -/
theorem zzSumPlaces_any (a b : Int) (w : World) :
    Calls Try.prog 12 #[.int .i64 a, .int .i64 b] w fun e w' => e = .returned (.int .i64 (sp a b)) ∧ w' = w := by
  go_enter Try.func12, Try.ntmps12
  go_wp2_with (go_at_call 15; refine (sumPlaces_any _ _ _).mono ?_; rintro e w' ⟨rfl, rfl⟩)
  go_ret
  exact ⟨rfl, rfl⟩

/-- decimal.ZZrestOf at the remainder nought -/
theorem rest_zero (den : Int) (w : World) :
    Calls Try.prog 13 #[.int .u64 0, .int .u64 den] w fun e w' => e = .returned (.int .i64 0) ∧ w' = w := by
  go_enter Try.func13, Try.ntmps13
  go_wp2
  go_ret
  exact ⟨rfl, rfl⟩

/-- decimal.ZZrestOf below the half -/
theorem rest_low (rem den : Int) (w : World) (h0 : 0 < rem) (h1 : 2 * rem < den) (h2 : den ≤ 18446744073709551615) :
    Calls Try.prog 13 #[.int .u64 rem, .int .u64 den] w fun e w' => e = .returned (.int .i64 1) ∧ w' = w := by
  have hz : (rem == 0) = false := by rw [beq_eq_false_iff_ne]; omega
  have hd : 0 ≤ den - rem := by omega
  have hlt : rem < den - rem := by omega
  go_enter Try.func13, Try.ntmps13
  go_wp2
  go_ret
  exact ⟨rfl, rfl⟩

/-- decimal.ZZrestOf at the half or above -/
theorem rest_high (rem den : Int) (w : World) (h0 : 0 < rem) (h1 : den ≤ 2 * rem) (h3 : rem < den) (h2 : den ≤ 18446744073709551615) :
    Calls Try.prog 13 #[.int .u64 rem, .int .u64 den] w fun e w' => e = .returned (.int .i64 2) ∧ w' = w := by
  have hz : (rem == 0) = false := by rw [beq_eq_false_iff_ne]; omega
  have hd : 0 ≤ den - rem := by omega
  have hlt : den - rem ≤ rem := by omega
  go_enter Try.func13, Try.ntmps13
  go_wp2
  go_ret
  exact ⟨rfl, rfl⟩

end Go.Proofs.Qxb6602958a
