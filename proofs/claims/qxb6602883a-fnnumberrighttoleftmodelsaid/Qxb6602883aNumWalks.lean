/- The walk of number, by a contract. -/
import Derived.Test.Qxb6602883aPlain
import Derived.Test.Qxb6602883aRows
import Derived.WalkKit
import Derived.WalkSpells
import Derived.WalkLawsBesides
namespace Go.Proofs.Qxb6602883a
open Go.RowKit

theorem ret_int {k : IntKind} {a b : Int} (h : a = b) : Ending.returned (.int k a) = .returned (.int k b) := by rw [h]
theorem ret_bool {a b : Bool} (h : a = b) : Ending.returned (.bool a) = .returned (.bool b) := by rw [h]

/-- What number answers. -/
def numW (s : ByteArray) : Int := wrap64 (num s.data.toList)

set_option maxHeartbeats 400000 in
/-- date.number -/
theorem number_any (s : ByteArray) (hs : s.size ≤ 1048576) (w : World) :
    Calls Try.prog 17 #[.string s] w fun e w' => e = .returned (.int .i64 (numW s)) ∧ w' = w := by
  go_enter Try.func17, Try.ntmps17
  go_wp2
  go_loop [3, 7] (fun n i => ∃ (k : Nat) (x : Int), k ≤ s.size ∧ i = .int .i64 k ∧ n = .int .i64 x ∧ Hid (x = wrap64 (num (s.data.toList.take k)))) (fun _ i => s.size - (intOf i).toNat)
  case atStart => exact ⟨0, 0, Nat.zero_le _, rfl, rfl, by show (0 : Int) = _; rw [List.take_zero]; exact wrap_zero⟩
  case round =>
    obtain ⟨k, x, hk, rfl, rfl, hx⟩ := hrel
    by_cases hlt : k < s.size
    · go_wp2
      go_round
      case rel => exact ⟨k + 1, _, by omega, by go_num, rfl, left_step s k hlt hx.out⟩
      case measure => simp [intOf]; omega
    · go_wp2
      go_ret
      exact ⟨ret_int (by rw [hx.out, List.take_of_length_le (by simp; omega)]; rfl), rfl⟩

/-- date.ZZNumber -/
theorem zzNumber_any (s : ByteArray) (hs : s.size ≤ 1048576) (w : World) :
    Calls Try.prog 11 #[.string s] w fun e w' => e = .returned (.int .i64 (numW s)) ∧ w' = w := by
  go_enter Try.func11, Try.ntmps11
  go_wp2_with (go_at_call 17; refine (number_any _ hs _).mono ?_; rintro e w' ⟨rfl, rfl⟩)
  go_ret
  exact ⟨rfl, rfl⟩

/-- zzBytes_FnNumberRightToLeftModel within the bound -/
theorem bytes_any (s : ByteArray) (hs : ¬ (1048576 : Int) < (s.size : Int)) (w : World) :
    Calls Try.prog 13 #[.string s] w fun e w' => e = .returned (.bool true) ∧ w' = w := by
  go_enter Try.func13, Try.ntmps13
  go_wp2
  go_ret
  exact ⟨rfl, rfl⟩

end Go.Proofs.Qxb6602883a
