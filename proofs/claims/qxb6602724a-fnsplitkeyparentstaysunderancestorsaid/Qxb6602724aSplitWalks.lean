/- The walks: each Go function on the road of the three laws, by a contract. -/
import Derived.Test.Qxb6602724aPlain
import Derived.Test.Qxb6602724aRows
import Derived.WalkKit
import Derived.WalkSpells
import Derived.WalkLawsBesides
import Derived.Deep.QuietTactic
import Derived.BigQuiet
namespace Go.Proofs.Qxb6602724a
open Go.RowKit

theorem grown_drewN (w : World) (n : Nat) : Grown w (w.drewN n) := Grown.refl w

theorem ret_bool {a b : Bool} (h : a = b) : Ending.returned (.bool a) = .returned (.bool b) := by rw [h]

set_option maxHeartbeats 400000 in
/-- zzHasSep -/
theorem hasSep_any (s : ByteArray) (hs : s.size ≤ 4194304) (w : World) :
    Calls Try.prog 8 #[.string s] w fun e w' => e = .returned (.bool (hasSepB s)) ∧ w' = w := by
  go_enter Try.func8, Try.ntmps8
  go_wp2
  go_loop [3] (fun i => ∃ k : Nat, k ≤ s.size ∧ i = .int .i64 k ∧ Hid (∀ j (h : j < s.size), j < k → ((s[j]).toNat : Int) ≠ 32)) (fun i => s.size - (intOf i).toNat)
  case atStart => exact ⟨0, Nat.zero_le _, rfl, fun j _ h => absurd h (Nat.not_lt_zero j)⟩
  case round =>
    obtain ⟨k, hk, rfl, hh⟩ := hrel
    by_cases hlt : k < s.size
    · go_wp2
      · have hc : (((s[k]).toNat : Int) == 32) = true := by assumption
        go_ret
        rw [sep_of s k hlt (by simpa using hc)]
        exact ⟨rfl, rfl⟩
      · have hc : (((s[k]).toNat : Int) == 32) = false := by assumption
        go_round
        case rel =>
          refine ⟨k + 1, by omega, by go_num, fun j h hj => ?_⟩
          by_cases e : j = k
          · subst e; simpa using hc
          · exact hh.out j h (by omega)
        case measure => simp [intOf]; omega
    · go_wp2
      go_ret
      rw [noSep_of s fun j h => hh.out j h (by omega)]
      exact ⟨rfl, rfl⟩

set_option maxHeartbeats 400000 in
/-- internal/bytealg.LastIndexByteString at the separator -/
theorem lastIndexByte_any (s : ByteArray) (hs : s.size ≤ 4194304) (w : World) :
    Calls Try.prog 14 #[.string s, .int .u8 32] w fun e w' => (∃ i : Int, e = .returned (.int .i64 i) ∧ LastAt s i) ∧ w' = w := by
  go_enter Try.func14, Try.ntmps14
  go_wp2
  go_loop [5] (fun i => ∃ k : Nat, k ≤ s.size ∧ i = .int .i64 ((k : Int) - 1) ∧ Hid (∀ j (h : j < s.size), k ≤ j → ((s[j]).toNat : Int) ≠ 32)) (fun i => ((intOf i) + 1).toNat)
  case atStart => exact ⟨s.size, Nat.le_refl _, rfl, fun j h1 h2 => absurd h1 (by omega)⟩
  case round =>
    obtain ⟨k, hk, rfl, hh⟩ := hrel
    go_wp2
    · have hc : (((s[k - 1]).toNat : Int) == 32) = true := by assumption
      have k1 : 1 ≤ k := by omega
      go_ret
      exact ⟨⟨_, rfl, .inr ⟨k - 1, by omega, by omega, by simpa using hc, fun j h hj => hh.out j h (by omega)⟩⟩, rfl⟩
    · have hc : (((s[k - 1]).toNat : Int) == 32) = false := by assumption
      have k1 : 1 ≤ k := by omega
      go_round
      case rel =>
        refine ⟨k - 1, by omega, by congr 1; omega, fun j h hj => ?_⟩
        by_cases e : j = k - 1
        · subst e; simpa using hc
        · exact hh.out j h (by omega)
      case measure => simp [intOf]; omega
    · have k0 : k = 0 := by omega
      go_ret
      exact ⟨⟨_, rfl, .inl ⟨rfl, fun j h => hh.out j h (by omega)⟩⟩, rfl⟩

set_option maxHeartbeats 400000 in
/-- strings.LastIndex at the separator -/
theorem lastIndex_any (s : ByteArray) (hs : s.size ≤ 4194304) (w : World) :
    Calls Try.prog 13 #[.string s, .string ⟨#[32]⟩] w fun e w' => (∃ i : Int, e = .returned (.int .i64 i) ∧ LastAt s i) ∧ w' = w := by
  go_enter Try.func13, Try.ntmps13
  go_wp2_with (go_at_call 14; refine (lastIndexByte_any _ hs _).mono ?_; rintro e w' ⟨⟨i, rfl, hi⟩, rfl⟩)
  go_ret
  exact ⟨⟨_, rfl, hi⟩, rfl⟩

set_option maxHeartbeats 400000 in
/-- orgunit.splitKey -/
theorem splitKey_any (s : ByteArray) (hs : s.size ≤ 4194304) (w : World) :
    Calls Try.prog 12 #[.string s] w fun e w' => (∃ p c, e = .returned (.tuple #[.string p, .string c]) ∧ Split s p c) ∧ ∃ n, w' = w.drewN n := by
  go_enter Try.func12, Try.ntmps12
  go_wp2_with (go_at_call 13; refine (lastIndex_any _ hs _).mono ?_; rintro e w' ⟨⟨i, rfl, hi⟩, rfl⟩; rcases hi with ⟨rfl, hn⟩ | ⟨k, hk, rfl, hc, hn⟩)
  · go_ret2
    exact ⟨⟨_, _, rfl, split_none _ hn⟩, 0, rfl⟩
  · have HC : Hid (((s[k]).toNat : Int) = 32) := hc
    have HN : Hid (∀ j (h : j < s.size), k < j → ((s[j]).toNat : Int) ≠ 32) := hn
    have hki : (k : Int) < (s.size : Int) := by omega
    clear hc hn
    go_quiet (fail)
    go_wp2
    go_ret2
    exact ⟨⟨_, _, rfl, split_at s k hk HC.out HN.out⟩, _, rfl⟩

set_option maxHeartbeats 400000 in
/-- orgunit.ZZsplitKey -/
theorem zzSplitKey_any (s : ByteArray) (hs : s.size ≤ 4194304) (w : World) :
    Calls Try.prog 7 #[.string s] w fun e w' => (∃ p c, e = .returned (.tuple #[.string p, .string c]) ∧ Split s p c) ∧ ∃ n, w' = w.drewN n := by
  go_enter Try.func7, Try.ntmps7
  go_wp2_with (go_at_call 12; refine (splitKey_any _ hs _).mono ?_; rintro e w' ⟨⟨p, c, rfl, hq⟩, n, rfl⟩; have HQ : Hid (Split s p c) := hq; clear hq)
  go_ret2
  exact ⟨⟨_, _, rfl, HQ.out⟩, _, rfl⟩

set_option maxHeartbeats 400000 in
/-- zzHasPrefix -/
theorem hasPrefix_any (s p : ByteArray) (hs : s.size ≤ 4194304) (_hp : p.size ≤ 4194304) (w : World) :
    Calls Try.prog 11 #[.string s, .string p] w fun e w' => e = .returned (.bool (prefB s p)) ∧ ∃ n, w' = w.drewN n := by
  by_cases hlen : s.size < p.size
  · have hli : (s.size : Int) < (p.size : Int) := by omega
    go_enter Try.func11, Try.ntmps11
    go_wp2
    go_ret
    rw [pref_long s p hlen]
    exact ⟨rfl, 0, rfl⟩
  · have hli : ¬ (s.size : Int) < (p.size : Int) := by omega
    go_enter Try.func11, Try.ntmps11
    go_wp2
    go_loopw [5] (fun i wr => ∃ k n : Nat, k ≤ p.size ∧ i = .int .i64 k ∧ wr = w.drewN n ∧ Hid (∀ j (_ : j < p.size) (_ : j < s.size), j < k → ((s[j]).toNat : Int) = ((p[j]).toNat : Int))) (fun i _ => p.size - (intOf i).toNat)
    case atStart => exact ⟨0, 0, Nat.zero_le _, rfl, rfl, fun j _ _ h => absurd h (Nat.not_lt_zero j)⟩
    case round =>
      obtain ⟨k, n, hk, rfl, rfl, hh⟩ := hrel
      by_cases hlt : k < p.size
      · have hlt2 : k < s.size := by omega
        have hi1 : (k : Int) < (p.size : Int) := by omega
        have hi2 : (k : Int) < (s.size : Int) := by omega
        go_wp2
        go_quiet (fail)
        go_wp2
        · have hc : (((s[k]).toNat : Int) != ((p[k]).toNat : Int)) = true := by assumption
          go_ret
          rw [pref_miss s p k hlt hlt2 (by simpa using hc)]
          exact ⟨rfl, n + nq, World.drewN_drewN _ _ _⟩
        · have hc : (((s[k]).toNat : Int) != ((p[k]).toNat : Int)) = false := by assumption
          go_roundw
          case rel =>
            refine ⟨k + 1, n + nq, by omega, by go_num, rfl, fun j h1 h2 hj => ?_⟩
            by_cases e : j = k
            · subst e; simpa using hc
            · exact hh.out j h1 h2 (by omega)
          case measure => simp [intOf]; omega
      · go_wp2
        go_ret
        rw [pref_all s p (by omega) fun j h1 h2 => hh.out j h1 h2 (by omega)]
        exact ⟨rfl, _, rfl⟩

end Go.Proofs.Qxb6602724a
