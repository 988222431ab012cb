/-
  allDigits AND ITS SHIM, WALKED.
-/
import Derived.Test.Qxb6600037aClones
namespace Go.Proofs.Qxb6600037a
open Go.RowKit

/-- What allDigits' answer says. -/
def Told (zs : List Int) (len : Nat) (e : Ending) : Prop := ∃ r : Bool, e = .returned (.bool r) ∧ (r = true → ∀ j, j < len → 48 ≤ zs.getD j 0 ∧ zs.getD j 0 ≤ 57)

set_option maxHeartbeats 1000000 in
theorem digits_any (b off len cap : Nat) (zs : List Int) (w : World) (hz : zs.length = len) (hlen : len ≤ 1000000000)
    (hcell : ∀ i, i < len → w.cell? ⟨b, off + i, none⟩ = some (.int .u8 (zs.getD i 0))) :
    Calls Try.prog 20 #[.slice (some ⟨b, off, none⟩) len cap] w fun e w' => Told zs len e ∧ w = w' := by
  have HZ : Hid (zs.length = len) := hz
  clear hz
  go_enter Try.func20, Try.ntmps20
  go_wp2
  go_loop [7] (fun si => ∃ k : Nat, k ≤ len ∧ si = .int .i64 k ∧ Hid (∀ j, j < k → 48 ≤ zs.getD j 0 ∧ zs.getD j 0 ≤ 57)) (fun si => len - (intOf si).toNat)
  case atStart => exact ⟨0, Nat.zero_le _, rfl, fun j hj => by omega⟩
  case round =>
    obtain ⟨k, hk, rfl, HR⟩ := hrel
    by_cases hlt : k < len
    · obtain ⟨c, hc⟩ : ∃ c, c = zs.getD k 0 := ⟨_, rfl⟩
      have g : w.cell? ⟨b, off + k, none⟩ = some (.int .u8 c) := by rw [hc]; exact hcell k hlt
      have C : Hid (c = zs.getD k 0) := hc
      clear hc hcell
      by_cases h1 : c < 48
      · clear HR
        go_wp2
        go_ret
        exact ⟨⟨false, rfl, fun h => by cases h⟩, rfl⟩
      · by_cases h2 : 57 < c
        · have hd : decide (c < 48) = false := by simpa using h1
          clear HR
          go_wp2
          go_ret
          exact ⟨⟨false, rfl, fun h => by cases h⟩, rfl⟩
        · have hd : decide (c < 48) = false := by simpa using h1
          have hd2 : decide (57 < c) = false := by simpa using h2
          have HN : Hid (∀ j, j < k + 1 → 48 ≤ zs.getD j 0 ∧ zs.getD j 0 ≤ 57) := fun j hj => by
            by_cases e : j = k
            · subst e; rw [← C.out]; omega
            · exact HR.out j (by omega)
          clear HR
          go_wp2
          go_round
          case rel => exact ⟨k + 1, by omega, by go_num, HN⟩
          case measure => simp [intOf]; omega
    · have hke : k = len := by omega
      subst hke
      clear hcell
      go_wp2
      go_ret
      exact ⟨⟨_, rfl, fun _ => HR.out⟩, rfl⟩

theorem digits_zero (a : Option Addr) (cap : Nat) (w : World) :
    Calls Try.prog 20 #[.slice a 0 cap] w fun e w' => e = .returned (.bool false) ∧ w = w' := by
  go_enter Try.func20, Try.ntmps20
  go_wp2
  refine wp_loop_rounds 1 ?_
  rw [rounds_succ]
  go_wp2
  go_ret
  exact ⟨rfl, rfl⟩

def ToldAll (zs : List Int) (e : Ending) : Prop := ∃ r : Bool, e = .returned (.bool r) ∧ (r = true → ∀ z ∈ zs, 48 ≤ z ∧ z ≤ 57)

theorem digits_all (a : Option Addr) (len cap : Nat) (zs : List Int) (w : World) (h : At .u8 w a len zs) (hlen : len ≤ 1000000000) :
    Calls Try.prog 11 #[.slice a len cap] w fun e w' => ToldAll zs e ∧ w = w' := by
  have key : Calls Try.prog 20 #[.slice a len cap] w fun e w' => ∃ r : Bool, e = .returned (.bool r) ∧ (r = true → ∀ z ∈ zs, 48 ≤ z ∧ z ≤ 57) ∧ w = w' := by
    obtain ⟨hl, h⟩ := h
    rcases h with h | ⟨b, off, e, _, hc⟩
    · subst h
      exact (digits_zero a cap w).mono fun e w' ⟨he, hw⟩ => ⟨false, he, (fun h => by cases h), hw⟩
    · subst e
      refine (digits_any b off len cap zs w hl hlen hc).mono fun e w' ⟨⟨r, he, hr⟩, hw⟩ => ⟨r, he, fun h z hz => ?_, hw⟩
      obtain ⟨j, hj, rfl⟩ := List.mem_iff_getElem.1 hz
      have := hr h j (by omega)
      rw [List.getD_eq_getElem?_getD, List.getElem?_eq_getElem hj] at this
      exact this
  go_enter Try.func11, Try.ntmps11
  go_wp2_with fail
  refine key.mono ?_
  rintro e w' ⟨r, rfl, hr, rfl⟩
  clear key
  have HR : Hid (r = true → ∀ z ∈ zs, 48 ≤ z ∧ z ≤ 57) := hr
  clear hr
  go_wp2
  go_ret
  exact ⟨⟨r, rfl, HR.out⟩, rfl⟩

end Go.Proofs.Qxb6600037a
