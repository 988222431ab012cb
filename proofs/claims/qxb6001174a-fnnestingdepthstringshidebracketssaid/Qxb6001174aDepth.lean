/-
  nestingDepth, WALKED: it computes 'Nest.depth'.
-/
import Derived.Test.Qxb6001174aNest
import Derived.Test.Qxb6001174aRows
import Derived.WalkKit
import Derived.WalkSpells
import Derived.WalkLawsBesides
namespace Go.Proofs.Qxb6001174a
open Go.RowKit Nest

theorem max_if (m d : Int) : Value.int .i64 (if m < d + 1 then d + 1 else m) = Value.int .i64 (max m (d + 1)) := by
  by_cases h : m < d + 1
  · rw [if_pos h, show max m (d + 1) = d + 1 by omega]
  · rw [if_neg h, show max m (d + 1) = m by omega]

set_option maxHeartbeats 1600000 in
theorem depth_any (b off len cap : Nat) (zs : List Int) (w : World) (hz : zs.length = len) (hlen : len ≤ 1000000000)
    (hcell : ∀ i, i < len → w.cell? ⟨b, off + i, none⟩ = some (.int .u8 (zs.getD i 0))) :
    Calls Try.prog 24 #[.slice (some ⟨b, off, none⟩) len cap] w fun e w' => e = .returned (.int .i64 (depth zs)) ∧ w' = w := by
  go_enter Try.func24, Try.ntmps24
  go_wp2
  go_loop [3, 4, 5, 6] (fun sd sm ss si => ∃ (k : Nat) (d m : Int) (s : Bool), k ≤ len + 1 ∧ -(k : Int) ≤ d ∧ d ≤ k ∧ 0 ≤ m ∧ m ≤ k ∧ sd = .int .i64 d ∧ sm = .int .i64 m ∧ ss = .bool s ∧ si = .int .i64 k ∧ Hid (nest (zs.drop k) s false d m = depth zs))
    (fun _ _ _ si => len + 1 - (intOf si).toNat)
  case atStart => exact ⟨0, 0, 0, false, by omega, by omega, by omega, by omega, by omega, rfl, rfl, rfl, rfl, rfl⟩
  case round =>
    obtain ⟨k, d, m, s, hk, hd1, hd2, hm1, hm2, rfl, rfl, rfl, rfl, HN⟩ := hrel
    by_cases hlt : k < len
    · have hkz : k < zs.length := by omega
      obtain ⟨c, hc⟩ : ∃ c, c = zs.getD k 0 := ⟨_, rfl⟩
      have hcl : w.cell? ⟨b, off + k, none⟩ = some (.int .u8 c) := by rw [hc]; exact hcell k hlt
      have HC : Hid (c = zs.getD k 0) := hc
      clear hc hcell
      have HZ : Hid (zs.length = len) := hz
      clear hz
      cases s
      · -- outside a string
        by_cases c34 : c = 34
        · have e1 : (c == 34) = true := by simp [c34]
          have HS := st_open hkz (by rw [← HC.out]; exact c34) HN.out
          have HS' : Hid (nest (zs.drop (k + 1)) true false d m = depth zs) := HS
          clear HS c34
          go_wp2
          go_round
          case rel => exact ⟨k + 1, d, m, true, by omega, by omega, by omega, by omega, by omega, rfl, rfl, rfl, by go_num, HS'⟩
          case measure => simp [intOf]; omega
        · have e1 : (c == 34) = false := by simpa using c34
          by_cases cup : c = 91 ∨ c = 123
          · have HS : Hid (nest (zs.drop (k + 1)) false false (d + 1) (max m (d + 1)) = depth zs) := st_up hkz (by rw [← HC.out]; exact cup) HN.out
            rcases cup with c91 | c123
            · have e2 : (c == 91) = true := by simp [c91]
              clear c91 c34 HN
              go_wp2
              go_round
              case rel => exact ⟨k + 1, d + 1, max m (d + 1), false, by omega, by omega, by omega, by omega, by omega, rfl, max_if m d, rfl, by go_num, HS⟩
              case measure => simp [intOf]; omega
            · have e2 : (c == 91) = false := by simp [c123]
              have e3 : (c == 123) = true := by simp [c123]
              clear c123 c34 HN
              go_wp2
              go_round
              case rel => exact ⟨k + 1, d + 1, max m (d + 1), false, by omega, by omega, by omega, by omega, by omega, rfl, max_if m d, rfl, by go_num, HS⟩
              case measure => simp [intOf]; omega
          · have e2 : (c == 91) = false := by simp; omega
            have e3 : (c == 123) = false := by simp; omega
            by_cases cdn : c = 93 ∨ c = 125
            · have HS : Hid (nest (zs.drop (k + 1)) false false (d - 1) m = depth zs) := st_down hkz (by rw [← HC.out]; exact cdn) HN.out
              rcases cdn with c93 | c125
              · have e4 : (c == 93) = true := by simp [c93]
                clear c93 c34 HN cup
                go_wp2
                go_round
                case rel => exact ⟨k + 1, d - 1, m, false, by omega, by omega, by omega, by omega, by omega, rfl, rfl, rfl, by go_num, HS⟩
                case measure => simp [intOf]; omega
              · have e4 : (c == 93) = false := by simp [c125]
                have e5 : (c == 125) = true := by simp [c125]
                clear c125 c34 HN cup
                go_wp2
                go_round
                case rel => exact ⟨k + 1, d - 1, m, false, by omega, by omega, by omega, by omega, by omega, rfl, rfl, rfl, by go_num, HS⟩
                case measure => simp [intOf]; omega
            · have e4 : (c == 93) = false := by simp; omega
              have e5 : (c == 125) = false := by simp; omega
              have HS : Hid (nest (zs.drop (k + 1)) false false d m = depth zs) := st_other hkz (by rw [← HC.out]; exact c34) (by rw [← HC.out]; exact cup) (by rw [← HC.out]; exact cdn) HN.out
              clear c34 HN cup cdn
              go_wp2
              go_round
              case rel => exact ⟨k + 1, d, m, false, by omega, by omega, by omega, by omega, by omega, rfl, rfl, rfl, by go_num, HS⟩
              case measure => simp [intOf]; omega
      · -- inside a string
        by_cases c92 : c = 92
        · have e1 : (c == 92) = true := by simp [c92]
          have HS : Hid (nest (zs.drop (k + 1 + 1)) true false d m = depth zs) := st_esc hkz (by rw [← HC.out]; exact c92) HN.out
          clear c92 HN
          go_wp2
          go_round
          case rel => exact ⟨k + 1 + 1, d, m, true, by omega, by omega, by omega, by omega, by omega, rfl, rfl, rfl, by go_num, HS⟩
          case measure => simp [intOf]; omega
        · have e1 : (c == 92) = false := by simpa using c92
          by_cases c34 : c = 34
          · have e2 : (c == 34) = true := by simp [c34]
            have HS : Hid (nest (zs.drop (k + 1)) false false d m = depth zs) := st_close hkz (by rw [← HC.out]; exact c34) HN.out
            clear c34 c92 HN
            go_wp2
            go_round
            case rel => exact ⟨k + 1, d, m, false, by omega, by omega, by omega, by omega, by omega, rfl, rfl, rfl, by go_num, HS⟩
            case measure => simp [intOf]; omega
          · have e2 : (c == 34) = false := by simpa using c34
            have HS : Hid (nest (zs.drop (k + 1)) true false d m = depth zs) := st_in hkz (by rw [← HC.out]; exact c92) (by rw [← HC.out]; exact c34) HN.out
            clear c34 c92 HN
            go_wp2
            go_round
            case rel => exact ⟨k + 1, d, m, true, by omega, by omega, by omega, by omega, by omega, rfl, rfl, rfl, by go_num, HS⟩
            case measure => simp [intOf]; omega
    · have HE := HN.out
      rw [List.drop_eq_nil_of_le (by omega), nest_nil] at HE
      subst HE
      clear HN
      go_wp2
      go_ret
      exact ⟨rfl, rfl⟩

/-- A slice of length 0, wherever it leads. -/
theorem depth_zero (a : Option Addr) (cap : Nat) (w : World) :
    Calls Try.prog 24 #[.slice a 0 cap] w fun e w' => e = .returned (.int .i64 0) ∧ w' = w := by
  go_enter Try.func24, Try.ntmps24
  go_wp2
  refine wp_loop_rounds 1 ?_
  rw [rounds_succ]
  go_wp2
  go_ret
  exact ⟨rfl, rfl⟩

theorem zzdepth_of (v : Value) (n : Int) (w : World) (h : Calls Try.prog 24 #[v] w fun e w' => e = .returned (.int .i64 n) ∧ w' = w) :
    Calls Try.prog 13 #[v] w fun e w' => e = .returned (.int .i64 n) ∧ w' = w := by
  go_enter Try.func13, Try.ntmps13
  go_wp2_with fail
  refine h.mono ?_
  rintro e w' ⟨rfl, rfl⟩
  go_wp2
  go_ret
  exact ⟨rfl, rfl⟩

theorem zzdepth_any (b off len cap : Nat) (zs : List Int) (w : World) (hz : zs.length = len) (hlen : len ≤ 1000000000)
    (hcell : ∀ i, i < len → w.cell? ⟨b, off + i, none⟩ = some (.int .u8 (zs.getD i 0))) :
    Calls Try.prog 13 #[.slice (some ⟨b, off, none⟩) len cap] w fun e w' => e = .returned (.int .i64 (depth zs)) ∧ w' = w :=
  zzdepth_of _ _ w (depth_any b off len cap zs w hz hlen hcell)
theorem zzdepth_zero (a : Option Addr) (cap : Nat) (w : World) :
    Calls Try.prog 13 #[.slice a 0 cap] w fun e w' => e = .returned (.int .i64 0) ∧ w' = w :=
  zzdepth_of _ _ w (depth_zero a cap w)

end Go.Proofs.Qxb6001174a
