/- The walks of allDigits and of uitoa, by contracts. -/
import Derived.Test.Qxb6602958aDigPlain
import Derived.Test.Qxb6602958aRows
import Derived.WalkKit
import Derived.WalkSpells
import Derived.WalkLawsBesides
import Derived.Laws.IdiomStrings
import Derived.Laws.BytesArg
namespace Go.Proofs.Qxb6602958a
open Go.RowKit

/-- '[]byte(s)': a new row, its cells the bytes. -/
theorem conv_bytes (s : ByteArray) (w : World) : ∃ cap W1,
    (convert 9 34 (.string s)).run Try.prog w = .ok (.slice (some ⟨w.heap.size, 0, none⟩) s.size cap) W1 ∧
    (∀ j (h : j < s.size), W1.cell? ⟨w.heap.size, j, none⟩ = some (.int .u8 (s[j].toNat : Int))) ∧ Below w.heap.size w W1 := by
  refine ⟨_, _, run_bytes_of_string w 9 34 5 s Try.underlying9 Try.underlying34 Try.underlying5, fun j h => ?_, ?_⟩
  · have hh : w.heap.size = w.drew.heap.size := rfl
    rw [hh, World.cell?_alloc_mark]
    exact bytesRow_at s _ j h
  · exact (Below.refl _ _).drew.alloc (Nat.le_refl _) _

set_option maxHeartbeats 400000 in
/-- decimal.allDigits -/
theorem allDigits_any (s : ByteArray) (hs : s.size ≤ 4096) (w : World) :
    Calls Try.prog 14 #[.string s] w fun e w' => e = .returned (.bool (adB s)) ∧ Below w.heap.size w w' := by
  by_cases hem : s.toList.isEmpty = true
  · obtain rfl := empty_of s hem
    clear hem
    go_enter Try.func14, Try.ntmps14
    go_wp2
    go_ret
    exact ⟨rfl, Below.refl _ _⟩
  · have hne : s.toList.isEmpty = false := by simpa using hem
    clear hem
    obtain ⟨cap, W1, hconv, hcell, hbel⟩ := conv_bytes s w
    have HC : Hid (∀ j (h : j < s.size), W1.cell? ⟨w.heap.size, j, none⟩ = some (.int .u8 (s[j].toNat : Int))) := hcell
    have HB : Hid (Below w.heap.size w W1) := hbel
    clear hcell hbel
    go_enter Try.func14, Try.ntmps14
    go_wp2
    go_loop [10] (fun i => ∃ k : Nat, k ≤ s.size ∧ i = .int .i64 k ∧ Hid (∀ j (h : j < s.size), j < k → 48 ≤ (s[j].toNat : Int) ∧ (s[j].toNat : Int) ≤ 57)) (fun i => s.size - (intOf i).toNat)
    case atStart => exact ⟨0, Nat.zero_le _, rfl, fun j _ h => absurd h (Nat.not_lt_zero j)⟩
    case round =>
      obtain ⟨k, hk, rfl, hh⟩ := hrel
      by_cases hlt : k < s.size
      · have hc := HC.out k hlt
        by_cases h1 : (s[k].toNat : Int) < 48
        · go_wp2
          go_ret
          rw [ad_miss s k hlt (.inl h1)]
          exact ⟨rfl, HB.out⟩
        · by_cases h2 : 57 < (s[k].toNat : Int)
          · go_wp2
            go_ret
            rw [ad_miss s k hlt (.inr h2)]
            exact ⟨rfl, HB.out⟩
          · have H1 : Hid (48 ≤ (s[k].toNat : Int) ∧ (s[k].toNat : Int) ≤ 57) := ⟨by omega, by omega⟩
            go_wp2
            go_round
            case rel =>
              refine ⟨k + 1, by omega, by go_num, fun j h hj => ?_⟩
              by_cases e : j = k
              · subst e; exact H1.out
              · exact hh.out j h (by omega)
            case measure => simp [intOf]; omega
      · go_wp2
        go_ret
        rw [ad_all s hne fun j h => hh.out j h (by omega)]
        exact ⟨rfl, HB.out⟩

/-- decimal.ZZallDigits -/
theorem zzAllDigits_any (s : ByteArray) (hs : s.size ≤ 4096) (w : World) :
    Calls Try.prog 10 #[.string s] w fun e w' => e = .returned (.bool (adB s)) ∧ Below w.heap.size w w' := by
  go_enter Try.func10, Try.ntmps10
  go_wp2_with (go_at_call 14; refine (allDigits_any _ hs _).mono ?_; rintro e w' ⟨rfl, hb⟩)
  go_ret
  exact ⟨rfl, hb⟩

end Go.Proofs.Qxb6602958a
