/-
  FnRescanSkipsNoUnsureRange, WALKED.
-/
import Derived.Test.Qxb6001174aRescanWalk
namespace Go.Proofs.Qxb6001174a
open Go.RowKit

theorem cloneR_all (a : Option Addr) (len cap : Nat) (F T X : Nat → Int) (w : World) (hlen : len ≤ 1000000000) (hn : a = none → len = 0 ∧ cap = 0) (hx : AtR w a len F T X) :
    Calls Try.prog 19 #[.slice a len cap] w fun e w' => ∃ a1 cap1, e = .returned (.slice a1 len cap1) ∧ AtR w' a1 len F T X ∧ Below w.heap.size w w' := by
  cases a with
  | none =>
    obtain ⟨rfl, rfl⟩ := hn rfl
    exact (cloneR_nil w).mono fun e w' ⟨he, hw⟩ => ⟨none, 0, he, .inl rfl, by subst hw; exact Below.refl _ _⟩
  | some x => exact (cloneR_any x len cap F T X w hlen hx).mono fun e w' ⟨he, h1, h2⟩ => ⟨_, _, he, h1, h2⟩

theorem sorted_from {F : Nat → Int} {len : Nat} (h : ∀ j, j + 1 < len → F j ≤ F (j + 1)) : ∀ k, k < len → F 0 ≤ F k := by
  intro k
  induction k with
  | zero => intro _; exact Int.le_refl _
  | succ k ih => intro hk; exact Int.le_trans (ih (by omega)) (h k hk)

set_option maxHeartbeats 4000000 in
theorem skips_walk (after frontier : Int) (a : Option Addr) (len cap : Nat) (F T X : Nat → Int) (w : World) (hm : len ≤ maxLen) (hn : a = none → len = 0 ∧ cap = 0) (hx : AtR w a len F T X) :
    Calls Try.prog 8 #[.int .i64 after, .int .i64 frontier, .slice a len cap] w fun e w' => e = .returned (.bool true) ∧ Below w.heap.size w w' := by
  unfold maxLen at hm
  by_cases hbig : (43690 : Int) < (len : Int)
  · by_cases hb2 : (1048576 : Int) < (len : Int)
    all_goals
      go_enter Try.func8, Try.ntmps8
      go_wp2
      go_ret
      exact ⟨rfl, Below.refl _ _⟩
  · go_enter Try.func8, Try.ntmps8
    go_wp2_with (go_at_call 22; go_in)
    go_loopw [7] (fun si wr => ∃ m : Nat, (m + 1 ≤ len ∨ m = 0) ∧ si = .int .i64 ((m : Int) + 1) ∧ Hid (∀ j, j < m → F j ≤ F (j + 1)) ∧ Below w.heap.size w wr)
      (fun si _ => len + 1 - (intOf si).toNat)
    case atStart => exact ⟨0, .inr rfl, rfl, fun j hj => by omega, Below.refl _ _⟩
    case round =>
      obtain ⟨m, hml, rfl, HF, hnx⟩ := hrel
      have hmb : m ≤ 43690 := by omega
      by_cases hlt : m + 1 < len
      · obtain ⟨b, off, rfl, hbl, hc⟩ := hx.resolve_left (by omega)
        have c0 : wr.cell? ⟨b, off + m * 3, none⟩ = some (.int .i64 (F m)) := (hnx.cell (by exact hbl)).trans (hc m (by omega)).1
        have c1 : wr.cell? ⟨b, off + (m + 1) * 3, none⟩ = some (.int .i64 (F (m + 1))) := (hnx.cell (by exact hbl)).trans (hc (m + 1) (by omega)).1
        have l1 : (m : Int) < (len : Int) := by omega
        have l2 : (m : Int) + 1 < (len : Int) := by omega
        have l3 : (0 : Int) ≤ (m : Int) + 1 := by omega
        clear hx hc hn
        by_cases hgt : F (m + 1) < F m
        · go_wp2_with fail
          go_quiet (fail)
          go_wp2
          go_ret
          exact ⟨rfl, below_drewN hnx _⟩
        · go_wp2_with fail
          go_quiet (fail)
          go_wp2
          go_roundw
          case rel => exact ⟨m + 1, .inl (by omega), by go_num, fun j hj => by
            by_cases e : j = m
            · subst e; omega
            · exact HF.out j (by omega), below_drewN hnx _⟩
          case measure => simp [intOf]; omega
      · have HS : Hid (∀ j, j + 1 < len → F j ≤ F (j + 1)) := fun j hj => HF.out j (by omega)
        have hxr := hx.later hnx
        have hfirst : ∀ k, k < len → F 0 ≤ F k := sorted_from HS.out
        clear hx HF HS
        go_wp2_with fail
        refine (cloneR_all a len cap F T X wr (by omega) hn hxr).mono ?_
        rintro e w1 ⟨a1, cap1, rfl, h1, b1⟩
        clear hxr hn
        go_wp2_with fail
        refine (zzrescan_any after frontier a1 len cap1 F T X w1 (by omega) h1).mono ?_
        rintro e w2 ⟨v, rfl, b2⟩
        have h2 := h1.later b2
        have hbw : Below w.heap.size w w2 := hnx.trans ((b1.trans (b2.mono b1.size)).mono hnx.size)
        obtain ⟨A, hA⟩ : ∃ A, A = (if len = 0 then after else F 0) := ⟨_, rfl⟩
        rw [← hA]
        have hA1 : ∀ k, k < len → A ≤ F k := fun k hk => by rw [hA, if_neg (by omega)]; exact hfirst k hk
        have hA2 : (∀ k, k < len → F k ≤ after) → A ≤ after := fun h => by
          rw [hA]
          by_cases e : len = 0
          · rw [if_pos e]; exact Int.le_refl _
          · rw [if_neg e]; exact h 0 (by omega)
        clear hA hfirst b1 b2 hnx h1
        go_wp2
        go_loop [11, 12] (fun sb si => ∃ (k : Nat) (ab : Bool), k ≤ len ∧ si = .int .i64 k ∧ sb = .bool ab ∧ Hid (ab = true → ∀ j, j < k → F j ≤ after))
          (fun _ si => len - (intOf si).toNat)
        case atStart => exact ⟨0, true, Nat.zero_le _, rfl, rfl, fun _ j hj => by omega⟩
        case round =>
          obtain ⟨k, ab, hk, rfl, rfl, HB⟩ := hrel
          by_cases hkl : k < len
          · obtain ⟨b, off, rfl, hbl, hc⟩ := h2.resolve_left (by omega)
            have c0 := (hc k hkl).1
            have hle : ¬ F k < A := by have := hA1 k hkl; omega
            clear h2 hc hA1 hA2
            by_cases hab : after < F k
            · go_wp2
              go_round
              case rel => exact ⟨k + 1, false, by omega, by go_num, rfl, fun h => by cases h⟩
              case measure => simp [intOf]; omega
            · go_wp2
              go_round
              case rel => exact ⟨k + 1, ab, by omega, by go_num, rfl, fun h j hj => by
                by_cases e : j = k
                · subst e; omega
                · exact HB.out h j (by omega)⟩
              case measure => simp [intOf]; omega
          · have hke : k = len := by omega
            subst hke
            clear h2 hA1
            cases ab
            · clear hA2 HB
              go_wp2
              go_ret
              exact ⟨rfl, hbw⟩
            · have hle : ¬ after < A := by have := hA2 (HB.out rfl); omega
              clear hA2 HB
              go_wp2
              go_ret
              exact ⟨rfl, hbw⟩

end Go.Proofs.Qxb6001174a
