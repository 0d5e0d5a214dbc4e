/- The plain side: the decimal value of a list of bytes, read from the left and from the right, in wrapping arithmetic of 64 bits. -/
import Derived.RowKit
import Derived.Below
namespace Go.Proofs.Qxb6602883a
open Go.RowKit

/-- A byte's digit value: its code minus 48, modulo 256. -/
def dv (c : UInt8) : Int := ((c.toNat : Int) - 48) % 256

/-- The value, unwrapped. -/
def num (l : List UInt8) : Int := l.foldl (fun n c => n * 10 + dv c) 0

theorem num_snoc (l : List UInt8) (c : UInt8) : num (l ++ [c]) = num l * 10 + dv c := by
  unfold num
  rw [List.foldl_append]
  rfl

theorem fold_from (l : List UInt8) : ∀ a : Int, l.foldl (fun n c => n * 10 + dv c) a = a * 10 ^ l.length + l.foldl (fun n c => n * 10 + dv c) 0 := by
  induction l with
  | nil => intro a; simp
  | cons c l ih =>
    intro a
    rw [List.foldl_cons, List.foldl_cons, ih (a * 10 + dv c), ih (0 * 10 + dv c), List.length_cons, Int.pow_succ, Int.add_mul, Int.add_mul, Int.zero_mul, Int.zero_mul, Int.zero_add, Int.mul_assoc a 10, Int.mul_comm 10, Int.add_assoc]

theorem num_cons (c : UInt8) (l : List UInt8) : num (c :: l) = dv c * 10 ^ l.length + num l := by
  unfold num
  rw [List.foldl_cons, fold_from, Int.zero_mul, Int.zero_add]

theorem get_list (s : ByteArray) (k : Nat) (h : k < s.size) : s.data.toList[k]'(by simpa using h) = s[k] := rfl

theorem take_snoc (s : ByteArray) (k : Nat) (h : k < s.size) : s.data.toList.take (k + 1) = s.data.toList.take k ++ [s[k]] := by
  rw [List.take_succ_eq_append_getElem (by simpa using h)]; rfl

theorem drop_pred (s : ByteArray) (k : Nat) (h : k < s.size) : s.data.toList.drop k = s[k] :: s.data.toList.drop (k + 1) := by
  rw [List.drop_eq_getElem_cons (by simpa using h)]; rfl

/-- One round of number. -/
theorem left_step (s : ByteArray) (k : Nat) (h : k < s.size) {x : Int} (hx : x = wrap64 (num (s.data.toList.take k))) :
    wrap64 (wrap64 (x * 10) + ((s[k].toNat : Int) - 48) % 256) = wrap64 (num (s.data.toList.take (k + 1))) := by
  rw [take_snoc s k h, num_snoc, hx]
  unfold wrap64 dv
  omega

theorem wrap_ex (x : Int) : ∃ q : Int, wrap64 x = x + 18446744073709551616 * q := by
  unfold wrap64
  exact ⟨-((x + 9223372036854775808) / 18446744073709551616), by omega⟩

theorem wrap_add (x q : Int) : wrap64 (x + 18446744073709551616 * q) = wrap64 x := by
  unfold wrap64
  omega

theorem wrap_wrap_add (x y : Int) : wrap64 (wrap64 x + wrap64 y) = wrap64 (x + y) := by
  unfold wrap64
  omega

theorem wrap_mul (d p : Int) : wrap64 (d * wrap64 p) = wrap64 (d * p) := by
  obtain ⟨q, hq⟩ := wrap_ex p
  rw [hq, Int.mul_add, Int.mul_left_comm, wrap_add]

/-- One round from the right. -/
theorem right_step (s : ByteArray) (k : Nat) (h : k < s.size) {x p : Int} (hx : x = wrap64 (num (s.data.toList.drop (k + 1)))) (hp : p = wrap64 (10 ^ (s.size - (k + 1)))) :
    wrap64 (x + wrap64 (dv s[k] * p)) = wrap64 (num (s.data.toList.drop k)) := by
  rw [drop_pred s k h, num_cons, hx, hp, wrap_mul, wrap_wrap_add, Int.add_comm, List.length_drop]
  simp

theorem right_pow (n k : Nat) (h : k < n) {p : Int} (hp : p = wrap64 (10 ^ (n - (k + 1)))) : wrap64 (p * 10) = wrap64 (10 ^ (n - k)) := by
  rw [show n - k = n - (k + 1) + 1 by omega, Int.pow_succ, hp, Int.mul_comm, wrap_mul, Int.mul_comm]

theorem wrap_zero : (0 : Int) = wrap64 (num []) := by
  show (0 : Int) = wrap64 0
  unfold wrap64
  omega

theorem wrap_one : (1 : Int) = wrap64 (10 ^ 0) := by
  show (1 : Int) = wrap64 1
  unfold wrap64
  omega

theorem byte_lt (c : UInt8) : (c.toNat : Int) < 256 := by
  have := c.toNat_lt
  omega

theorem dv_hi (c : UInt8) (h : 0 ≤ wrap64 (wrap64 (c.toNat : Int) - 48)) : wrap64 (wrap64 (c.toNat : Int) - 48) = dv c := by
  have := byte_lt c
  unfold wrap64 at h ⊢
  unfold dv
  omega

theorem dv_lo (c : UInt8) (h : wrap64 (wrap64 (c.toNat : Int) - 48) < 0) : wrap64 (wrap64 (wrap64 (c.toNat : Int) - 48) + 256) = dv c := by
  have := byte_lt c
  unfold wrap64 at h ⊢
  unfold dv
  omega

end Go.Proofs.Qxb6602883a
