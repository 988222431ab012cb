/-
  isGB18030, WALKED: it computes 'Gb.gb'.
-/
import Derived.Test.Qxb6600037aGb
import Derived.Test.Qxb6600037aRows
import Derived.WalkKit
import Derived.WalkSpells
import Derived.WalkLawsBesides
namespace Go.Proofs.Qxb6600037a
open Go.RowKit Gb

theorem lead_clo (b : Int) (w : World) : Calls Try.prog 26 #[.int .u8 b] w fun e w' => e = .returned (.bool (lead b)) ∧ w' = w := by
  by_cases h1 : 129 ≤ b
  · by_cases h2 : b ≤ 254
    · rw [(lead_iff b).2 ⟨h1, h2⟩]
      go_enter Try.func26, Try.ntmps26
      go_wp2
      go_ret
      exact ⟨rfl, rfl⟩
    · rw [(lead_not b).2 (by omega)]
      have hd : decide (b ≤ 254) = false := by simpa using h2
      go_enter Try.func26, Try.ntmps26
      go_wp2
      go_ret
      exact ⟨rfl, rfl⟩
  · rw [(lead_not b).2 (by omega)]
    have hd : decide (129 ≤ b) = false := by simpa using h1
    go_enter Try.func26, Try.ntmps26
    go_wp2
    go_ret
    exact ⟨rfl, rfl⟩

theorem digit_clo (b : Int) (w : World) : Calls Try.prog 27 #[.int .u8 b] w fun e w' => e = .returned (.bool (digit b)) ∧ w' = w := by
  by_cases h1 : 48 ≤ b
  · by_cases h2 : b ≤ 57
    · rw [(digit_iff b).2 ⟨h1, h2⟩]
      go_enter Try.func27, Try.ntmps27
      go_wp2
      go_ret
      exact ⟨rfl, rfl⟩
    · rw [(digit_not b).2 (by omega)]
      have hd : decide (b ≤ 57) = false := by simpa using h2
      go_enter Try.func27, Try.ntmps27
      go_wp2
      go_ret
      exact ⟨rfl, rfl⟩
  · rw [(digit_not b).2 (by omega)]
    have hd : decide (48 ≤ b) = false := by simpa using h1
    go_enter Try.func27, Try.ntmps27
    go_wp2
    go_ret
    exact ⟨rfl, rfl⟩


set_option maxRecDepth 100000 in
set_option maxHeartbeats 20000000 in
theorem is_any (b off len cap : Nat) (zs : List Int) (w : World) (hz : zs.length = len) (hlen : len ≤ 1000000000) (hcap : len ≤ cap)
    (hcell : ∀ i, i < len → w.cell? ⟨b, off + i, none⟩ = some (.int .u8 (zs.getD i 0))) :
    Calls Try.prog 21 #[.slice (some ⟨b, off, none⟩) len cap] w fun e w' => e = .returned (.bool (gb zs)) ∧ w' = w := by
  have HZ : Hid (zs.length = len) := hz
  clear hz
  obtain ⟨G, hG⟩ : ∃ G, G = gb zs := ⟨_, rfl⟩
  rw [← hG]
  have HG : Hid (G = gb zs) := hG
  clear hG
  go_enter Try.func21, Try.ntmps21
  go_wp2
  go_loop [5] (fun si => ∃ k : Nat, k ≤ len ∧ si = .int .i64 k ∧ Hid (gb (zs.drop k) = G)) (fun si => len - (intOf si).toNat)
  case atStart => exact ⟨0, Nat.zero_le _, rfl, HG.out.symm⟩
  case round =>
    obtain ⟨k, hk, rfl, HR⟩ := hrel
    by_cases hlt : k < len
    · have hkz : k < zs.length := by rw [HZ.out]; exact hlt
      obtain ⟨c0, hc0⟩ : ∃ c, c = zs.getD k 0 := ⟨_, rfl⟩
      have g0 : w.cell? ⟨b, off + k, none⟩ = some (.int .u8 c0) := by rw [hc0]; exact hcell k hlt
      have C0 : Hid (c0 = zs.getD k 0) := hc0
      clear hc0
      have hkc : k < cap := by omega
      by_cases h0 : c0 < 128
      · have HN : Hid (gb (zs.drop (k + 1)) = G) := at_one hkz (by rw [← C0.out]; exact h0) HR.out
        clear hcell HR
        go_wp2
        go_round
        case rel => exact ⟨k + 1, by omega, by go_num, HN⟩
        case measure => simp [intOf]; omega
      · by_cases hl0 : lead c0 = false
        · have hF : G = false := no_lead hkz (by rw [← C0.out]; exact h0) (by rw [← C0.out]; exact hl0) HR.out
          subst hF
          clear hcell HR HG
          by_cases h2 : k + 2 ≤ len
          · by_cases h4 : k + 4 ≤ len
            all_goals
              go_wp2_with (first | (go_at_call 26; refine (lead_clo _ _).mono ?_; rintro e w' ⟨rfl, rfl⟩) | (go_at_call 27; refine (digit_clo _ _).mono ?_; rintro e w' ⟨rfl, rfl⟩))
              go_ret
              exact ⟨rfl, rfl⟩
          · have h4 : ¬ k + 4 ≤ len := by omega
            go_wp2_with (first | (go_at_call 26; refine (lead_clo _ _).mono ?_; rintro e w' ⟨rfl, rfl⟩) | (go_at_call 27; refine (digit_clo _ _).mono ?_; rintro e w' ⟨rfl, rfl⟩))
            go_ret
            exact ⟨rfl, rfl⟩
        · have hl0 : lead c0 = true := by simpa using hl0
          by_cases h2 : k + 2 ≤ len
          · have h2z : k + 2 ≤ zs.length := by rw [HZ.out]; exact h2
            obtain ⟨c1, hc1⟩ : ∃ c, c = zs.getD (k + 1) 0 := ⟨_, rfl⟩
            have g1 : w.cell? ⟨b, off + k + 1, none⟩ = some (.int .u8 c1) := by rw [hc1, Nat.add_assoc]; exact hcell (k + 1) (by omega)
            have C1 : Hid (c1 = zs.getD (k + 1) 0) := hc1
            clear hc1
            by_cases ht : trail c1 = true
            · have HN : Hid (gb (zs.drop (k + 2)) = G) := at_two h2z (by rw [← C0.out]; exact hl0) (by rw [← C1.out]; exact ht) HR.out
              have hT := (trail_iff c1).1 ht
              clear hcell HR HG ht
              by_cases ha : c1 ≤ 126
              · have ha' : 64 ≤ c1 := by omega
                clear hT
                go_wp2_with (first | (go_at_call 26; refine (lead_clo _ _).mono ?_; rintro e w' ⟨rfl, rfl⟩) | (go_at_call 27; refine (digit_clo _ _).mono ?_; rintro e w' ⟨rfl, rfl⟩))
                go_round
                case rel => exact ⟨k + 2, by omega, by go_num, HN⟩
                case measure => simp [intOf]; omega
              · have ha' : 64 ≤ c1 := by omega
                have ha2 : decide (c1 ≤ 126) = false := by simpa using ha
                by_cases hl1 : c1 = 128
                · have hl2 : lead c1 = false := (lead_not c1).2 (by omega)
                  have hl3 : (c1 == 128) = true := by simpa using hl1
                  clear hT hl1
                  go_wp2_with (first | (go_at_call 26; refine (lead_clo _ _).mono ?_; rintro e w' ⟨rfl, rfl⟩) | (go_at_call 27; refine (digit_clo _ _).mono ?_; rintro e w' ⟨rfl, rfl⟩))
                  go_round
                  case rel => exact ⟨k + 2, by omega, by go_num, HN⟩
                  case measure => simp [intOf]; omega
                · have hl2 : lead c1 = true := (lead_iff c1).2 (by omega)
                  clear hT hl1
                  go_wp2_with (first | (go_at_call 26; refine (lead_clo _ _).mono ?_; rintro e w' ⟨rfl, rfl⟩) | (go_at_call 27; refine (digit_clo _ _).mono ?_; rintro e w' ⟨rfl, rfl⟩))
                  go_round
                  case rel => exact ⟨k + 2, by omega, by go_num, HN⟩
                  case measure => simp [intOf]; omega
            · have ht : trail c1 = false := by simpa using ht
              have hT := (trail_not c1).1 ht
              have hl1 : lead c1 = false := (lead_not c1).2 (by omega)
              have hl3 : (c1 == 128) = false := by simp; omega
              by_cases h4 : k + 4 ≤ len
              · have h4z : k + 4 ≤ zs.length := by rw [HZ.out]; exact h4
                obtain ⟨c2, hc2⟩ : ∃ c, c = zs.getD (k + 2) 0 := ⟨_, rfl⟩
                obtain ⟨c3, hc3⟩ : ∃ c, c = zs.getD (k + 3) 0 := ⟨_, rfl⟩
                have g2 : w.cell? ⟨b, off + k + 2, none⟩ = some (.int .u8 c2) := by rw [hc2, Nat.add_assoc]; exact hcell (k + 2) (by omega)
                have g3 : w.cell? ⟨b, off + k + 3, none⟩ = some (.int .u8 c3) := by rw [hc3, Nat.add_assoc]; exact hcell (k + 3) (by omega)
                have C2 : Hid (c2 = zs.getD (k + 2) 0) := hc2
                have C3 : Hid (c3 = zs.getD (k + 3) 0) := hc3
                clear hc2 hc3 hcell
                by_cases hd1 : digit c1 = true
                · have hd1r := (digit_iff c1).1 hd1
                  have hx1 : decide (64 ≤ c1) = false := by simp; omega
                  clear hT
                  by_cases hl2 : lead c2 = true
                  · by_cases hd3 : digit c3 = true
                    · have HN : Hid (gb (zs.drop (k + 4)) = G) := at_four h4z (by rw [← C0.out]; exact hl0) (by rw [← C1.out]; exact hd1) (by rw [← C2.out]; exact hl2) (by rw [← C3.out]; exact hd3) HR.out
                      clear HR HG
                      go_wp2_with (first | (go_at_call 26; refine (lead_clo _ _).mono ?_; rintro e w' ⟨rfl, rfl⟩) | (go_at_call 27; refine (digit_clo _ _).mono ?_; rintro e w' ⟨rfl, rfl⟩))
                      go_round
                      case rel => exact ⟨k + 4, by omega, by go_num, HN⟩
                      case measure => simp [intOf]; omega
                    · have hd3 : digit c3 = false := by simpa using hd3
                      have hF : G = false := no_four h4z (by rw [← C0.out]; exact h0) (by rw [← C1.out]; exact ht) (by rw [← C0.out, ← C1.out, ← C2.out, ← C3.out, hd3]; simp) HR.out
                      subst hF
                      clear HR HG
                      go_wp2_with (first | (go_at_call 26; refine (lead_clo _ _).mono ?_; rintro e w' ⟨rfl, rfl⟩) | (go_at_call 27; refine (digit_clo _ _).mono ?_; rintro e w' ⟨rfl, rfl⟩))
                      go_ret
                      exact ⟨rfl, rfl⟩
                  · have hl2 : lead c2 = false := by simpa using hl2
                    have hF : G = false := no_four h4z (by rw [← C0.out]; exact h0) (by rw [← C1.out]; exact ht) (by rw [← C0.out, ← C1.out, ← C2.out, ← C3.out, hl2]; simp) HR.out
                    subst hF
                    clear HR HG
                    go_wp2_with (first | (go_at_call 26; refine (lead_clo _ _).mono ?_; rintro e w' ⟨rfl, rfl⟩) | (go_at_call 27; refine (digit_clo _ _).mono ?_; rintro e w' ⟨rfl, rfl⟩))
                    go_ret
                    exact ⟨rfl, rfl⟩
                · have hd1 : digit c1 = false := by simpa using hd1
                  have hF : G = false := no_four h4z (by rw [← C0.out]; exact h0) (by rw [← C1.out]; exact ht) (by rw [← C0.out, ← C1.out, ← C2.out, ← C3.out, hd1]; simp) HR.out
                  subst hF
                  clear HR HG g2 g3
                  by_cases hx : 64 ≤ c1
                  · have hx2 : decide (c1 ≤ 126) = false := by simp; omega
                    clear hT
                    go_wp2_with (first | (go_at_call 26; refine (lead_clo _ _).mono ?_; rintro e w' ⟨rfl, rfl⟩) | (go_at_call 27; refine (digit_clo _ _).mono ?_; rintro e w' ⟨rfl, rfl⟩))
                    go_ret
                    exact ⟨rfl, rfl⟩
                  · have hx1 : decide (64 ≤ c1) = false := by simpa using hx
                    clear hT
                    go_wp2_with (first | (go_at_call 26; refine (lead_clo _ _).mono ?_; rintro e w' ⟨rfl, rfl⟩) | (go_at_call 27; refine (digit_clo _ _).mono ?_; rintro e w' ⟨rfl, rfl⟩))
                    go_ret
                    exact ⟨rfl, rfl⟩
              · have hF : G = false := no_short h2z (by rw [HZ.out]; exact h4) (by rw [← C0.out]; exact h0) (by rw [← C1.out]; exact ht) HR.out
                subst hF
                clear HR HG hcell
                by_cases hx : 64 ≤ c1
                · have hx2 : decide (c1 ≤ 126) = false := by simp; omega
                  clear hT
                  go_wp2_with (first | (go_at_call 26; refine (lead_clo _ _).mono ?_; rintro e w' ⟨rfl, rfl⟩) | (go_at_call 27; refine (digit_clo _ _).mono ?_; rintro e w' ⟨rfl, rfl⟩))
                  go_ret
                  exact ⟨rfl, rfl⟩
                · have hx1 : decide (64 ≤ c1) = false := by simpa using hx
                  clear hT
                  go_wp2_with (first | (go_at_call 26; refine (lead_clo _ _).mono ?_; rintro e w' ⟨rfl, rfl⟩) | (go_at_call 27; refine (digit_clo _ _).mono ?_; rintro e w' ⟨rfl, rfl⟩))
                  go_ret
                  exact ⟨rfl, rfl⟩
          · have hF : G = false := no_last hkz (by rw [HZ.out]; exact h2) (by rw [← C0.out]; exact h0) HR.out
            subst hF
            have h4 : ¬ k + 4 ≤ len := by omega
            clear HR HG hcell
            go_wp2_with (first | (go_at_call 26; refine (lead_clo _ _).mono ?_; rintro e w' ⟨rfl, rfl⟩) | (go_at_call 27; refine (digit_clo _ _).mono ?_; rintro e w' ⟨rfl, rfl⟩))
            go_ret
            exact ⟨rfl, rfl⟩
    · have HE := HR.out
      rw [List.drop_eq_nil_of_le (by rw [HZ.out]; omega)] at HE
      have HE' : G = true := HE.symm
      subst HE'
      clear HR HE hcell HG
      go_wp2
      go_ret
      exact ⟨rfl, rfl⟩

end Go.Proofs.Qxb6600037a
