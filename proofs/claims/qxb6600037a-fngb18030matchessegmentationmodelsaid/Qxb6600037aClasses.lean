/-
  THE BYTE CLASSES OF THE LAW's OWN MODEL, WALKED.
-/
import Derived.Test.Qxb6600037aGb
import Derived.Test.Qxb6600037aRows
import Derived.WalkKit
import Derived.WalkSpells
import Derived.WalkLawsBesides
namespace Go.Proofs.Qxb6600037a
open Go.RowKit Gb

theorem single_fn (b : Int) (w : World) : Calls Try.prog 22 #[.int .u8 b] w fun e w' => e = .returned (.bool (decide (b < 128))) ∧ w' = w := by
  go_enter Try.func22, Try.ntmps22
  go_wp2
  go_ret
  exact ⟨rfl, rfl⟩

theorem lead_fn (b : Int) (w : World) : Calls Try.prog 23 #[.int .u8 b] w fun e w' => e = .returned (.bool (lead b)) ∧ w' = w := by
  by_cases h1 : 129 ≤ b
  · by_cases h2 : b ≤ 254
    · rw [(lead_iff b).2 ⟨h1, h2⟩]
      go_enter Try.func23, Try.ntmps23
      go_wp2
      go_ret
      exact ⟨rfl, rfl⟩
    · rw [(lead_not b).2 (by omega)]
      have hd : decide (b ≤ 254) = false := by simpa using h2
      go_enter Try.func23, Try.ntmps23
      go_wp2
      go_ret
      exact ⟨rfl, rfl⟩
  · rw [(lead_not b).2 (by omega)]
    have hd : decide (129 ≤ b) = false := by simpa using h1
    go_enter Try.func23, Try.ntmps23
    go_wp2
    go_ret
    exact ⟨rfl, rfl⟩

theorem digit_fn (b : Int) (w : World) : Calls Try.prog 25 #[.int .u8 b] w fun e w' => e = .returned (.bool (digit b)) ∧ w' = w := by
  by_cases h1 : 48 ≤ b
  · by_cases h2 : b ≤ 57
    · rw [(digit_iff b).2 ⟨h1, h2⟩]
      go_enter Try.func25, Try.ntmps25
      go_wp2
      go_ret
      exact ⟨rfl, rfl⟩
    · rw [(digit_not b).2 (by omega)]
      have hd : decide (b ≤ 57) = false := by simpa using h2
      go_enter Try.func25, Try.ntmps25
      go_wp2
      go_ret
      exact ⟨rfl, rfl⟩
  · rw [(digit_not b).2 (by omega)]
    have hd : decide (48 ≤ b) = false := by simpa using h1
    go_enter Try.func25, Try.ntmps25
    go_wp2
    go_ret
    exact ⟨rfl, rfl⟩

theorem trail_fn (b : Int) (w : World) : Calls Try.prog 24 #[.int .u8 b] w fun e w' => e = .returned (.bool (trail b)) ∧ w' = w := by
  by_cases h1 : 64 ≤ b
  · by_cases h2 : b ≤ 126
    · rw [(trail_iff b).2 (.inl ⟨h1, h2⟩)]
      go_enter Try.func24, Try.ntmps24
      go_wp2
      go_ret
      exact ⟨rfl, rfl⟩
    · have hd : decide (b ≤ 126) = false := by simpa using h2
      by_cases h3 : 128 ≤ b
      · by_cases h4 : b ≤ 254
        · rw [(trail_iff b).2 (.inr ⟨h3, h4⟩)]
          go_enter Try.func24, Try.ntmps24
          go_wp2
          go_ret
          exact ⟨rfl, rfl⟩
        · rw [(trail_not b).2 (by omega)]
          have hd4 : decide (b ≤ 254) = false := by simpa using h4
          go_enter Try.func24, Try.ntmps24
          go_wp2
          go_ret
          exact ⟨rfl, rfl⟩
      · rw [(trail_not b).2 (by omega)]
        have hd3 : decide (128 ≤ b) = false := by simpa using h3
        go_enter Try.func24, Try.ntmps24
        go_wp2
        go_ret
        exact ⟨rfl, rfl⟩
  · rw [(trail_not b).2 (by omega)]
    have hd : decide (64 ≤ b) = false := by simpa using h1
    have h3 : ¬ 128 ≤ b := by omega
    have hd3 : decide (128 ≤ b) = false := by simpa using h3
    go_enter Try.func24, Try.ntmps24
    go_wp2
    go_ret
    exact ⟨rfl, rfl⟩

end Go.Proofs.Qxb6600037a
