/- The walk of uitoa, by a contract. -/
import Derived.Test.Qxb6602958aDigWalks
namespace Go.Proofs.Qxb6602958a
open Go.RowKit

theorem ret_str {a b : ByteArray} (h : a = b) : Ending.returned (.string a) = .returned (.string b) := by rw [h]

/-- The buffer, block B of twenty cells, holds the numbers z; below B all is as it was in w. -/
structure Buf (B : Nat) (w wr : World) (z : Nat → Int) : Prop where
  below : Below B w wr
  cells : ∀ j, j < 20 → wr.cell? ⟨B, j, none⟩ = some (.int .u8 (z j))
  loose : ∀ j, wr.frozen? ⟨B, j, none⟩ = false

theorem Buf.store {B : Nat} {w wr : World} {z : Nat → Int} (h : Buf B w wr z) (i : Nat) (hi : i < 20) (d : Int) :
    Buf B w (wr.setCell ⟨B, i, none⟩ (.int .u8 d)) (fun j => if j = i then d else z j) where
  below := h.below.setCell (Nat.le_refl _) _
  cells := fun j hj => by
    by_cases e : j = i
    · subst e
      rw [if_pos rfl]
      exact World.cell?_setCell_same _ _ _ (h.cells j hi)
    · rw [if_neg e, World.cell?_setCell_other _ _ _ _ (fun he => e (by cases he; rfl))]
      exact h.cells j hj
  loose := fun j => (World.frozen?_setCell _ _ _ _).trans (h.loose j)

theorem Buf.init (w : World) : Buf w.heap.size w (w.alloc (.cells #[.int .u8 0, .int .u8 0, .int .u8 0, .int .u8 0, .int .u8 0, .int .u8 0, .int .u8 0, .int .u8 0, .int .u8 0, .int .u8 0, .int .u8 0, .int .u8 0, .int .u8 0, .int .u8 0, .int .u8 0, .int .u8 0, .int .u8 0, .int .u8 0, .int .u8 0, .int .u8 0] 33)) (fun _ => 0) where
  below := (Below.refl _ _).alloc (Nat.le_refl _) _
  cells := fun j hj => by
    rw [World.cell?_alloc_mark]
    match j, hj with
    | 0, _ | 1, _ | 2, _ | 3, _ | 4, _ | 5, _ | 6, _ | 7, _ | 8, _ | 9, _ | 10, _ | 11, _ | 12, _ | 13, _ | 14, _ | 15, _ | 16, _ | 17, _ | 18, _ | 19, _ => rfl
    | j + 20, hj => exact absurd hj (by omega)
  loose := fun j => by
    rw [frozen?_alloc_cells]
    simp [World.frozen?]

theorem pow_step (m : Int) (q : Nat) (h : m < 10 ^ (q + 1)) : m / 10 < 10 ^ q := by
  rw [Int.pow_succ] at h
  omega

theorem pow_pos (m : Int) (q : Nat) (h0 : 0 ≤ m) (hz : ¬ m = 0) (h : m < 10 ^ q) : 1 ≤ q := by
  cases q with
  | zero => simp at h; omega
  | succ q => omega

theorem pow_start (n : Int) (h : n ≤ 18446744073709551615) : n < 10 ^ 20 := by
  have : (10 : Int) ^ 20 = 100000000000000000000 := by decide
  omega

theorem new_digit (z : Nat → Int) (q : Nat) (m : Int) (hz : ∀ j, q + 1 ≤ j → j < 20 → 48 ≤ z j ∧ z j ≤ 57) (j : Nat) (h1 : q ≤ j) (h2 : j < 20) :
    48 ≤ (fun j => if j = q then 48 + m % 10 else z j) j ∧ (fun j => if j = q then 48 + m % 10 else z j) j ≤ 57 := by
  show 48 ≤ (if j = q then 48 + m % 10 else z j) ∧ (if j = q then 48 + m % 10 else z j) ≤ 57
  by_cases e : j = q
  · rw [if_pos e]; omega
  · rw [if_neg e]; exact hz j (by omega) h2

/-- The digits from place q on, as a text. -/
theorem digits_text (z : Nat → Int) (q : Nat) (hq : q < 20) (h : ∀ j, q ≤ j → j < 20 → 48 ≤ z j ∧ z j ≤ 57) :
    adB (strOfNums ((List.range (20 - q)).map fun i => z (q + i))) = true ∧ (strOfNums ((List.range (20 - q)).map fun i => z (q + i))).size ≤ 20 := by
  refine ⟨?_, by rw [strOfNums_size]; simp⟩
  unfold adB
  rw [strOfNums_data, Bool.and_eq_true, List.all_eq_true]
  refine ⟨?_, fun c hc => ?_⟩
  · rw [Bool.not_eq_true', List.isEmpty_eq_false_iff]
    intro e
    have := congrArg List.length e
    simp at this
    omega
  · simp only [List.map_map, List.mem_map, List.mem_range, Function.comp] at hc
    obtain ⟨i, hi, rfl⟩ := hc
    have := h (q + i) (by omega) (by omega)
    rw [decide_eq_true_eq]
    simp
    omega

/-- 'buf[i:]' -/
theorem slice_buf (B q : Nat) (hq : q < 20) (W : World) :
    (Instr.sliceAt 33 (.pointer (some ⟨B, 0, none⟩)) (some (.int .i64 (q : Int))) none none).run Try.prog W = .ok (.slice (some ⟨B, q, none⟩) (20 - q) (20 - q)) W := by
  have hl : Try.prog.arrayLen 33 = 20 := by kernel_rfl
  have hne : ¬ 20 = q := by omega
  rw [run_sliceAt_array_l W 33 _ (by kernel_rfl) .i64 q (by omega) (by rw [hl]; omega)]
  rw [hl]
  have hz : (sizeOf (Try.prog.elem 33)).run Try.prog W = .ok 1 W := by kernel_rfl
  rw [hz]
  simp [slicedAt, Result.andThen, hne, Addr.add]
  exact fun h => h.symm

/-- 'string(buf[i:])' -/
theorem string_buf (B q : Nat) (_hq : q < 20) (w W : World) (z : Nat → Int) (hb : Buf B w W z) :
    (convert 34 9 (.slice (some ⟨B, q, none⟩) (20 - q) (20 - q))).run Try.prog W = .ok (.string (strOfNums ((List.range (20 - q)).map fun i => z (q + i)))) W :=
  run_convert_bytes_arg W 34 5 Try.underlying34 Try.underlying5 B q (20 - q) (20 - q) _ (by simp) (fun i hi => by
    rw [hb.cells (q + i) (by omega)]
    simp [List.getD, hi]) 9 Try.underlying9

set_option maxHeartbeats 400000 in
/-- uitoa: digits, at least one, at most twenty. -/
theorem uitoa_any (n : Int) (h0 : 0 ≤ n) (h1 : n ≤ 18446744073709551615) (w : World) :
    Calls Try.prog 11 #[.int .u64 n] w fun e w' => (∃ t : ByteArray, e = .returned (.string t) ∧ adB t = true ∧ t.size ≤ 20) ∧ Below w.heap.size w w' := by
  go_enter Try.func11, Try.ntmps11
  go_wp2
  go_loopw [0, 4] (fun nv iv wr => ∃ (k : Nat) (m : Int) (z : Nat → Int), 1 ≤ k ∧ k ≤ 20 ∧ iv = .int .i64 k ∧ nv = .int .u64 m ∧ 0 ≤ m ∧ m ≤ 18446744073709551615 ∧ Hid (m < 10 ^ k) ∧ Hid (Buf w.heap.size w wr z) ∧ Hid (∀ j, k ≤ j → j < 20 → 48 ≤ z j ∧ z j ≤ 57)) (fun _ iv _ => (intOf iv).toNat)
  case atStart => exact ⟨20, n, fun _ => 0, by omega, by omega, rfl, rfl, h0, h1, pow_start n h1, Buf.init w, fun j h1 h2 => absurd h1 (by omega)⟩
  case round =>
    obtain ⟨k, m, z, hk1, hk, rfl, rfl, m0, m1, hp, hb, hz⟩ := hrel
    obtain ⟨q, rfl⟩ : ∃ q, k = q + 1 := ⟨k - 1, by omega⟩
    have hc := hb.out.cells q (by omega)
    have hf := hb.out.loose q
    have hqi : (q : Int) < 20 := by omega
    by_cases hlast : m / 10 = 0
    · have hl' : (m / 10 == 0) = true := by rw [beq_iff_eq]; exact hlast
      clear hlast
      have hb' := hb.out.store q (by omega) (48 + m % 10)
      have HT : Hid (adB (strOfNums ((List.range (20 - q)).map fun i => (fun j => if j = q then 48 + m % 10 else z j) (q + i))) = true ∧ (strOfNums ((List.range (20 - q)).map fun i => (fun j => if j = q then 48 + m % 10 else z j) (q + i))).size ≤ 20) :=
        digits_text _ q (by omega) fun j h1 h2 => new_digit z q m hz.out j h1 h2
      have HB : Hid (Below w.heap.size w (wr.setCell ⟨w.heap.size, q, none⟩ (.int .u8 (48 + m % 10)))) := hb'.below
      have hsl := slice_buf w.heap.size q (by omega) (wr.setCell ⟨w.heap.size, q, none⟩ (.int .u8 (48 + m % 10)))
      have hst := string_buf w.heap.size q (by omega) w _ _ hb'
      clear hb'
      generalize strOfNums ((List.range (20 - q)).map fun i => (fun j => if j = q then 48 + m % 10 else z j) (q + i)) = t at HT hst
      go_wp2
      go_ret
      exact ⟨⟨t, rfl, HT.out.1, HT.out.2⟩, HB.out⟩
    · have hl' : (m / 10 == 0) = false := by rw [beq_eq_false_iff_ne]; exact hlast
      have HN : Hid (¬ m / 10 = 0) := hlast
      clear hlast
      go_wp2
      go_roundw
      case rel => exact ⟨q, m / 10, _, pow_pos _ q (by omega) HN.out (pow_step m q hp.out), by omega, rfl, rfl, by omega, by omega, pow_step m q hp.out, hb.out.store q (by omega) (48 + m % 10), fun j h1 h2 => new_digit z q m hz.out j h1 h2⟩
      case measure => simp [intOf]

end Go.Proofs.Qxb6602958a
