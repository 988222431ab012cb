/-
  zzSegmentable_ofdfile_b1, WALKED: it computes 'Gb.gb'.
-/
import Derived.Test.Qxb6600037aSeg
import Derived.Test.Qxb6600037aClasses
import Derived.Test.Qxb6600037aClones
namespace Go.Proofs.Qxb6600037a
open Go.RowKit Gb

theorem map_set_true (r : List Bool) (k : Nat) : (r.set k true).map Value.bool = (r.map Value.bool).set k (.bool true) := by rw [List.map_set]

theorem made_false (n : Nat) : (madeCells #[Value.bool false] n).toList = (List.replicate n false).map Value.bool := by
  apply List.ext_getElem
  · simp [madeCells]
  · intro i h1 h2
    simp [madeCells, Nat.mod_one]

set_option maxRecDepth 100000 in
set_option maxHeartbeats 20000000 in
theorem seg_any (a : Option Addr) (len cap : Nat) (zs : List Int) (w : World) (hA : At .u8 w a len zs) (hlen : len ≤ 1000000000) :
    Calls Try.prog 15 #[.slice a len cap] w fun e w' => e = .returned (.bool (gb zs)) ∧ Below w.heap.size w w' := by
  obtain ⟨i0, hi, hz0, hz1, hz2⟩ := info_parts Try.info4
  obtain ⟨hz, hA⟩ := hA
  have HZ : Hid (zs.length = len) := hz
  clear hz
  go_enter Try.func15, Try.ntmps15
  go_wp2_with (at_make; refine wpList_make_full _ rfl _ _ 32 rfl w.heap.size 4 i0 (.bool false) 1 Try.underlying32 hi hz0 hz1 _ _ _ _ (len + 1) rfl rfl (by omega) (by omega) ?b2 ?b3 (Nat.le_refl _) ?_)
  case b2 => rw [hz2]; omega
  case b3 => unfold maxLen; omega
  intro w0 hown0 hgrow0
  rw [made_false] at hown0
  have fz0 : w0.frozen? ⟨w.heap.size, 0, none⟩ = false := hown0.frozenAt 0
  obtain ⟨v0, hv0⟩ : ∃ v0, w0.cell? ⟨w.heap.size, 0, none⟩ = some v0 := by
    rw [hown0.cellAt 0 (by omega)]
    exact ⟨_, List.getElem?_eq_getElem (by rw [hown0.1]; omega)⟩
  have O0 := (hown0.stored 0 (.bool true)).1
  rw [← map_set_true] at O0
  have hb0 : Below w.heap.size w w0 := (Below.refl _ _).grown hgrow0 (Nat.le_refl _) (fun k h => by cases h)
  have hb1 : Below w.heap.size w (w0.setCell ⟨w.heap.size, 0, none⟩ (.bool true)) := hb0.setCell (Nat.le_refl _) _
  clear hown0 hgrow0 hb0
  go_wp2
  go_loopw [5] (fun si wr => ∃ (k : Nat) (r : List Bool), k ≤ len ∧ si = .int .i64 k ∧ wr.ownsRow w.heap.size 4 1 (.slice (some ⟨w.heap.size, 0, none⟩) (len + 1) (len + 1)) (len + 1) (r.map Value.bool) ∧ Seg zs k r ∧ Below w.heap.size w wr)
    (fun si _ => len - (intOf si).toNat)
  case atStart => exact ⟨0, _, Nat.zero_le _, rfl, O0, by have := seg_start zs; rw [HZ.out] at this; exact this, hb1⟩
  case round =>
    obtain ⟨k, r, hk, rfl, hown, hseg, hnx⟩ := hrel
    clear O0 hb1 fz0 hv0
    have hrl : r.length = len + 1 := by have := hseg.1; rw [HZ.out] at this; exact this
    have hrk : ∀ j, j < len + 1 → wr.cell? ⟨w.heap.size, j, none⟩ = some (.bool (r.getD j false)) := fun j hj => by
      rw [hown.cellAt j (by omega), List.getElem?_map, List.getElem?_eq_getElem (by omega), List.getD_eq_getElem?_getD, List.getElem?_eq_getElem (by omega)]
      rfl
    by_cases hlt : k < len
    · have hkz : k < zs.length := by rw [HZ.out]; exact hlt
      obtain ⟨b, off, rfl, hbl, hcw⟩ := hA.resolve_left (by omega)
      have hcell : ∀ i, i < len → wr.cell? ⟨b, off + i, none⟩ = some (.int .u8 (zs.getD i 0)) := fun i hi => (hnx.cell (by exact hbl)).trans (hcw i hi)
      have hrc := hrk k (by omega)
      have hbne : b ≠ w.heap.size := by omega
      clear hrk hA hcw
      cases hr : r.getD k false
      · rw [hr] at hrc
        have HS : Hid (Seg zs (k + 1) r) := seg_skip hseg hkz hr
        clear hseg hr hcell hrl
        go_wp2_with (first | (go_at_call 22; refine (single_fn _ _).mono ?_; rintro e w' ⟨rfl, rfl⟩) | (go_at_call 23; refine (lead_fn _ _).mono ?_; rintro e w' ⟨rfl, rfl⟩) | (go_at_call 24; refine (trail_fn _ _).mono ?_; rintro e w' ⟨rfl, rfl⟩) | (go_at_call 25; refine (digit_fn _ _).mono ?_; rintro e w' ⟨rfl, rfl⟩))
        go_roundw
        case rel => exact ⟨k + 1, r, by omega, by go_num, hown, HS.out, hnx⟩
        case measure => simp [intOf]; omega
      · rw [hr] at hrc
        obtain ⟨c0, hc0⟩ : ∃ c, c = zs.getD k 0 := ⟨_, rfl⟩
        have g0 : wr.cell? ⟨b, off + k, none⟩ = some (.int .u8 c0) := by rw [hc0]; exact hcell k hlt
        have C0 : Hid (c0 = zs.getD k 0) := hc0
        have HR : Hid (r.getD k false = true) := hr
        clear hc0 hr
        by_cases h0 : c0 < 128
        · have HS : Hid (Seg zs (k + 1) (r.set (k + 1) true)) := seg_one hseg hkz HR.out (by rw [← C0.out]; exact h0)
          have hl0 : lead c0 = false := (lead_not c0).2 (by omega)
          have hd0 : decide (c0 < 128) = true := by simpa using h0
          clear hseg hcell
          by_cases h2 : k + 2 ≤ len
          · by_cases h4 : k + 4 ≤ len
            all_goals
              have fz : wr.frozen? ⟨w.heap.size, k + 1, none⟩ = false := hown.frozenAt _
              obtain ⟨v3, hv3⟩ : ∃ v3, wr.cell? ⟨w.heap.size, k + 1, none⟩ = some v3 := by
                rw [hown.cellAt _ (by omega)]
                exact ⟨_, List.getElem?_eq_getElem (by rw [hown.1]; omega)⟩
              have O := (hown.stored (k + 1) (.bool true)).1
              have hbs : Below w.heap.size w (wr.setCell ⟨w.heap.size, k + 1, none⟩ (.bool true)) := hnx.setCell (Nat.le_refl _) _
              rw [← map_set_true] at O
              clear hown hnx
              go_wp2_with (first | (go_at_call 22; refine (single_fn _ _).mono ?_; rintro e w' ⟨rfl, rfl⟩) | (go_at_call 23; refine (lead_fn _ _).mono ?_; rintro e w' ⟨rfl, rfl⟩) | (go_at_call 24; refine (trail_fn _ _).mono ?_; rintro e w' ⟨rfl, rfl⟩) | (go_at_call 25; refine (digit_fn _ _).mono ?_; rintro e w' ⟨rfl, rfl⟩))
              go_roundw
              case rel => exact ⟨k + 1, r.set (k + 1) true, by omega, by go_num, O, HS.out, hbs⟩
              case measure => simp [intOf]; omega
          · have h4 : ¬ k + 4 ≤ len := by omega
            have fz : wr.frozen? ⟨w.heap.size, k + 1, none⟩ = false := hown.frozenAt _
            obtain ⟨v3, hv3⟩ : ∃ v3, wr.cell? ⟨w.heap.size, k + 1, none⟩ = some v3 := by
              rw [hown.cellAt _ (by omega)]
              exact ⟨_, List.getElem?_eq_getElem (by rw [hown.1]; omega)⟩
            have O := (hown.stored (k + 1) (.bool true)).1
            have hbs : Below w.heap.size w (wr.setCell ⟨w.heap.size, k + 1, none⟩ (.bool true)) := hnx.setCell (Nat.le_refl _) _
            rw [← map_set_true] at O
            clear hown hnx
            go_wp2_with (first | (go_at_call 22; refine (single_fn _ _).mono ?_; rintro e w' ⟨rfl, rfl⟩) | (go_at_call 23; refine (lead_fn _ _).mono ?_; rintro e w' ⟨rfl, rfl⟩) | (go_at_call 24; refine (trail_fn _ _).mono ?_; rintro e w' ⟨rfl, rfl⟩) | (go_at_call 25; refine (digit_fn _ _).mono ?_; rintro e w' ⟨rfl, rfl⟩))
            go_roundw
            case rel => exact ⟨k + 1, r.set (k + 1) true, by omega, by go_num, O, HS.out, hbs⟩
            case measure => simp [intOf]; omega
        · have hd0 : decide (c0 < 128) = false := by simpa using h0
          by_cases hl0 : lead c0 = true
          · by_cases h2 : k + 2 ≤ len
            · have h2z : k + 2 ≤ zs.length := by rw [HZ.out]; exact h2
              obtain ⟨c1, hc1⟩ : ∃ c, c = zs.getD (k + 1) 0 := ⟨_, rfl⟩
              have g1 : wr.cell? ⟨b, off + (k + 1), none⟩ = some (.int .u8 c1) := by rw [hc1]; exact hcell (k + 1) (by omega)
              have C1 : Hid (c1 = zs.getD (k + 1) 0) := hc1
              clear hc1
              by_cases ht : trail c1 = true
              · have HS : Hid (Seg zs (k + 1) (r.set (k + 2) true)) := seg_two hseg h2z HR.out (by rw [← C0.out]; exact hl0) (by rw [← C1.out]; exact ht)
                have hd1 : digit c1 = false := by
                  cases hd : digit c1
                  · rfl
                  · rw [trail_of_digit _ hd] at ht; cases ht
                clear hseg hcell
                by_cases h4 : k + 4 ≤ len
                all_goals
                  have fz : wr.frozen? ⟨w.heap.size, k + 2, none⟩ = false := hown.frozenAt _
                  obtain ⟨v3, hv3⟩ : ∃ v3, wr.cell? ⟨w.heap.size, k + 2, none⟩ = some v3 := by
                    rw [hown.cellAt _ (by omega)]
                    exact ⟨_, List.getElem?_eq_getElem (by rw [hown.1]; omega)⟩
                  have O := (hown.stored (k + 2) (.bool true)).1
                  have hbs : Below w.heap.size w (wr.setCell ⟨w.heap.size, k + 2, none⟩ (.bool true)) := hnx.setCell (Nat.le_refl _) _
                  rw [← map_set_true] at O
                  clear hown hnx
                  go_wp2_with (first | (go_at_call 22; refine (single_fn _ _).mono ?_; rintro e w' ⟨rfl, rfl⟩) | (go_at_call 23; refine (lead_fn _ _).mono ?_; rintro e w' ⟨rfl, rfl⟩) | (go_at_call 24; refine (trail_fn _ _).mono ?_; rintro e w' ⟨rfl, rfl⟩) | (go_at_call 25; refine (digit_fn _ _).mono ?_; rintro e w' ⟨rfl, rfl⟩))
                  go_roundw
                  case rel => exact ⟨k + 1, r.set (k + 2) true, by omega, by go_num, O, HS.out, hbs⟩
                  case measure => simp [intOf]; omega
              · have ht : trail c1 = false := by simpa using ht
                have n2 : ¬ (k + 2 ≤ zs.length ∧ lead (zs.getD k 0) = true ∧ trail (zs.getD (k + 1) 0) = true) := by rw [← C1.out, ht]; simp
                by_cases h4 : k + 4 ≤ len
                · have h4z : k + 4 ≤ zs.length := by rw [HZ.out]; exact h4
                  obtain ⟨c2, hc2⟩ : ∃ c, c = zs.getD (k + 2) 0 := ⟨_, rfl⟩
                  obtain ⟨c3, hc3⟩ : ∃ c, c = zs.getD (k + 3) 0 := ⟨_, rfl⟩
                  have g2 : wr.cell? ⟨b, off + (k + 2), none⟩ = some (.int .u8 c2) := by rw [hc2]; exact hcell (k + 2) (by omega)
                  have g3 : wr.cell? ⟨b, off + (k + 3), none⟩ = some (.int .u8 c3) := by rw [hc3]; exact hcell (k + 3) (by omega)
                  have C2 : Hid (c2 = zs.getD (k + 2) 0) := hc2
                  have C3 : Hid (c3 = zs.getD (k + 3) 0) := hc3
                  clear hc2 hc3 hcell
                  by_cases hd1 : digit c1 = true
                  · by_cases hl2 : lead c2 = true
                    · by_cases hd3 : digit c3 = true
                      · have HS : Hid (Seg zs (k + 1) (r.set (k + 4) true)) := seg_four hseg h4z HR.out (by rw [← C0.out]; exact hl0) (by rw [← C1.out]; exact hd1) (by rw [← C2.out]; exact hl2) (by rw [← C3.out]; exact hd3)
                        clear hseg n2
                        have fz : wr.frozen? ⟨w.heap.size, k + 4, none⟩ = false := hown.frozenAt _
                        obtain ⟨v3, hv3⟩ : ∃ v3, wr.cell? ⟨w.heap.size, k + 4, none⟩ = some v3 := by
                          rw [hown.cellAt _ (by omega)]
                          exact ⟨_, List.getElem?_eq_getElem (by rw [hown.1]; omega)⟩
                        have O := (hown.stored (k + 4) (.bool true)).1
                        have hbs : Below w.heap.size w (wr.setCell ⟨w.heap.size, k + 4, none⟩ (.bool true)) := hnx.setCell (Nat.le_refl _) _
                        rw [← map_set_true] at O
                        clear hown hnx
                        go_wp2_with (first | (go_at_call 22; refine (single_fn _ _).mono ?_; rintro e w' ⟨rfl, rfl⟩) | (go_at_call 23; refine (lead_fn _ _).mono ?_; rintro e w' ⟨rfl, rfl⟩) | (go_at_call 24; refine (trail_fn _ _).mono ?_; rintro e w' ⟨rfl, rfl⟩) | (go_at_call 25; refine (digit_fn _ _).mono ?_; rintro e w' ⟨rfl, rfl⟩))
                        go_roundw
                        case rel => exact ⟨k + 1, r.set (k + 4) true, by omega, by go_num, O, HS.out, hbs⟩
                        case measure => simp [intOf]; omega
                      · have hd3 : digit c3 = false := by simpa using hd3
                        have HS : Hid (Seg zs (k + 1) r) := seg_none hseg hkz HR.out (by rw [← C0.out]; exact h0) n2 (by rw [← C3.out, hd3]; simp)
                        clear hseg n2
                        go_wp2_with (first | (go_at_call 22; refine (single_fn _ _).mono ?_; rintro e w' ⟨rfl, rfl⟩) | (go_at_call 23; refine (lead_fn _ _).mono ?_; rintro e w' ⟨rfl, rfl⟩) | (go_at_call 24; refine (trail_fn _ _).mono ?_; rintro e w' ⟨rfl, rfl⟩) | (go_at_call 25; refine (digit_fn _ _).mono ?_; rintro e w' ⟨rfl, rfl⟩))
                        go_roundw
                        case rel => exact ⟨k + 1, r, by omega, by go_num, hown, HS.out, hnx⟩
                        case measure => simp [intOf]; omega
                    · have hl2 : lead c2 = false := by simpa using hl2
                      have HS : Hid (Seg zs (k + 1) r) := seg_none hseg hkz HR.out (by rw [← C0.out]; exact h0) n2 (by rw [← C2.out, hl2]; simp)
                      clear hseg n2
                      go_wp2_with (first | (go_at_call 22; refine (single_fn _ _).mono ?_; rintro e w' ⟨rfl, rfl⟩) | (go_at_call 23; refine (lead_fn _ _).mono ?_; rintro e w' ⟨rfl, rfl⟩) | (go_at_call 24; refine (trail_fn _ _).mono ?_; rintro e w' ⟨rfl, rfl⟩) | (go_at_call 25; refine (digit_fn _ _).mono ?_; rintro e w' ⟨rfl, rfl⟩))
                      go_roundw
                      case rel => exact ⟨k + 1, r, by omega, by go_num, hown, HS.out, hnx⟩
                      case measure => simp [intOf]; omega
                  · have hd1 : digit c1 = false := by simpa using hd1
                    have HS : Hid (Seg zs (k + 1) r) := seg_none hseg hkz HR.out (by rw [← C0.out]; exact h0) n2 (by rw [← C1.out, hd1]; simp)
                    clear hseg n2
                    go_wp2_with (first | (go_at_call 22; refine (single_fn _ _).mono ?_; rintro e w' ⟨rfl, rfl⟩) | (go_at_call 23; refine (lead_fn _ _).mono ?_; rintro e w' ⟨rfl, rfl⟩) | (go_at_call 24; refine (trail_fn _ _).mono ?_; rintro e w' ⟨rfl, rfl⟩) | (go_at_call 25; refine (digit_fn _ _).mono ?_; rintro e w' ⟨rfl, rfl⟩))
                    go_roundw
                    case rel => exact ⟨k + 1, r, by omega, by go_num, hown, HS.out, hnx⟩
                    case measure => simp [intOf]; omega
                · have HS : Hid (Seg zs (k + 1) r) := seg_none hseg hkz HR.out (by rw [← C0.out]; exact h0) n2 (fun h => h4 (by rw [← HZ.out]; exact h.1))
                  clear hseg n2 hcell
                  go_wp2_with (first | (go_at_call 22; refine (single_fn _ _).mono ?_; rintro e w' ⟨rfl, rfl⟩) | (go_at_call 23; refine (lead_fn _ _).mono ?_; rintro e w' ⟨rfl, rfl⟩) | (go_at_call 24; refine (trail_fn _ _).mono ?_; rintro e w' ⟨rfl, rfl⟩) | (go_at_call 25; refine (digit_fn _ _).mono ?_; rintro e w' ⟨rfl, rfl⟩))
                  go_roundw
                  case rel => exact ⟨k + 1, r, by omega, by go_num, hown, HS.out, hnx⟩
                  case measure => simp [intOf]; omega
            · have h4 : ¬ k + 4 ≤ len := by omega
              have HS : Hid (Seg zs (k + 1) r) := seg_none hseg hkz HR.out (by rw [← C0.out]; exact h0) (fun h => h2 (by rw [← HZ.out]; exact h.1)) (fun h => h4 (by rw [← HZ.out]; exact h.1))
              clear hseg hcell
              go_wp2_with (first | (go_at_call 22; refine (single_fn _ _).mono ?_; rintro e w' ⟨rfl, rfl⟩) | (go_at_call 23; refine (lead_fn _ _).mono ?_; rintro e w' ⟨rfl, rfl⟩) | (go_at_call 24; refine (trail_fn _ _).mono ?_; rintro e w' ⟨rfl, rfl⟩) | (go_at_call 25; refine (digit_fn _ _).mono ?_; rintro e w' ⟨rfl, rfl⟩))
              go_roundw
              case rel => exact ⟨k + 1, r, by omega, by go_num, hown, HS.out, hnx⟩
              case measure => simp [intOf]; omega
          · have hl0 : lead c0 = false := by simpa using hl0
            have HS : Hid (Seg zs (k + 1) r) := seg_none hseg hkz HR.out (by rw [← C0.out]; exact h0) (by rw [← C0.out, hl0]; simp) (by rw [← C0.out, hl0]; simp)
            clear hseg hcell
            by_cases h2 : k + 2 ≤ len
            · by_cases h4 : k + 4 ≤ len
              all_goals
                go_wp2_with (first | (go_at_call 22; refine (single_fn _ _).mono ?_; rintro e w' ⟨rfl, rfl⟩) | (go_at_call 23; refine (lead_fn _ _).mono ?_; rintro e w' ⟨rfl, rfl⟩) | (go_at_call 24; refine (trail_fn _ _).mono ?_; rintro e w' ⟨rfl, rfl⟩) | (go_at_call 25; refine (digit_fn _ _).mono ?_; rintro e w' ⟨rfl, rfl⟩))
                go_roundw
                case rel => exact ⟨k + 1, r, by omega, by go_num, hown, HS.out, hnx⟩
                case measure => simp [intOf]; omega
            · have h4 : ¬ k + 4 ≤ len := by omega
              go_wp2_with (first | (go_at_call 22; refine (single_fn _ _).mono ?_; rintro e w' ⟨rfl, rfl⟩) | (go_at_call 23; refine (lead_fn _ _).mono ?_; rintro e w' ⟨rfl, rfl⟩) | (go_at_call 24; refine (trail_fn _ _).mono ?_; rintro e w' ⟨rfl, rfl⟩) | (go_at_call 25; refine (digit_fn _ _).mono ?_; rintro e w' ⟨rfl, rfl⟩))
              go_roundw
              case rel => exact ⟨k + 1, r, by omega, by go_num, hown, HS.out, hnx⟩
              case measure => simp [intOf]; omega
    · have hke : k = len := by omega
      subst hke
      have hend : r.getD k false = gb zs := by
        have := seg_end zs r (by rw [HZ.out]; exact hseg)
        rw [HZ.out] at this
        exact this
      have hrc := hrk k (by omega)
      rw [hend] at hrc
      clear hend hrk hA hseg hown
      go_wp2
      go_ret
      exact ⟨rfl, hnx⟩

end Go.Proofs.Qxb6600037a
