/-
  zzBytes_FnConvergenceMatchesDigestTable, WALKED.
-/
import Derived.Test.Qxb6601336aCopies
namespace Go.Proofs.Qxb6601336a
open Go.RowKit

/-- What its answer says. -/
def BytesTold (n0 n1 n2 : Nat) (D : Nat → ByteArray) (e : Ending) : Prop :=
  ∃ r : Bool, e = .returned (.bool r) ∧ (r = true → n0 ≤ 1048576 ∧ n1 ≤ 1048576 ∧ n2 ≤ 1048576 ∧ ∀ i, i < n2 → (D i).size ≤ 1048576)

set_option maxHeartbeats 4000000 in
theorem bytes_any (a0 a1 a2 : Option Addr) (n0 c0 n1 c1 n2 c2 : Nat) (D : Nat → ByteArray) (w : World) (m0 : n0 ≤ maxLen) (m1 : n1 ≤ maxLen) (m2 : n2 ≤ maxLen) (md : ∀ i, i < n2 → (D i).size ≤ maxLen)
    (hD : AtV w a2 n2 fun i => .string (D i)) :
    Calls Try.prog 7 #[.slice a0 n0 c0, .slice a1 n1 c1, .slice a2 n2 c2] w fun e w' => BytesTold n0 n1 n2 D e ∧ w = w' := by
  unfold maxLen at m0 m1 m2 md
  by_cases h0 : (1048576 : Int) < (n0 : Int)
  · clear md hD
    go_enter Try.func7, Try.ntmps7
    go_wp2
    go_ret
    exact ⟨⟨false, rfl, fun h => by cases h⟩, rfl⟩
  by_cases h1 : (1048576 : Int) < (n1 : Int)
  · clear md hD
    go_enter Try.func7, Try.ntmps7
    go_wp2
    go_ret
    exact ⟨⟨false, rfl, fun h => by cases h⟩, rfl⟩
  by_cases h01 : (1048576 : Int) < (n0 : Int) + (n1 : Int)
  · clear md hD
    go_enter Try.func7, Try.ntmps7
    go_wp2
    go_ret
    exact ⟨⟨false, rfl, fun h => by cases h⟩, rfl⟩
  by_cases h2 : (1048576 : Int) < (n2 : Int)
  · clear md hD
    go_enter Try.func7, Try.ntmps7
    go_wp2
    go_ret
    exact ⟨⟨false, rfl, fun h => by cases h⟩, rfl⟩
  by_cases h012 : (1048576 : Int) < (n0 : Int) + (n1 : Int) + (n2 : Int)
  · clear md hD
    go_enter Try.func7, Try.ntmps7
    go_wp2
    go_ret
    exact ⟨⟨false, rfl, fun h => by cases h⟩, rfl⟩
  have MD : Hid (∀ i, i < n2 → (D i).size ≤ 2 ^ 63 - 1) := md
  clear md
  go_enter Try.func7, Try.ntmps7
  go_wp2
  go_loop [7, 8] (fun sz si => ∃ (k : Nat) (z : Int), k ≤ n2 ∧ si = .int .i64 k ∧ sz = .int .i64 z ∧ 0 ≤ z ∧ z ≤ 1048576 ∧ Hid (∀ i, i < k → (D i).size ≤ 1048576)) (fun _ si => n2 - (intOf si).toNat)
  case atStart => exact ⟨0, _, Nat.zero_le _, rfl, rfl, by omega, by omega, fun i hi => by omega⟩
  case round =>
    obtain ⟨k, z, hk, rfl, rfl, hz0, hz1, HR⟩ := hrel
    by_cases hlt : k < n2
    · obtain ⟨b, off, rfl, _, hc⟩ := hD.resolve_left (by omega)
      have g := hc k hlt
      have gs := MD.out k hlt
      clear hD hc
      by_cases hs : (1048576 : Int) < ((D k).size : Int)
      · clear HR
        go_wp2
        go_ret
        exact ⟨⟨false, rfl, fun h => by cases h⟩, rfl⟩
      · by_cases hzs : (1048576 : Int) < z + ((D k).size : Int)
        · clear HR
          go_wp2
          go_ret
          exact ⟨⟨false, rfl, fun h => by cases h⟩, rfl⟩
        · have HN : Hid (∀ i, i < k + 1 → (D i).size ≤ 1048576) := fun i hi => by
            by_cases e : i = k
            · subst e; omega
            · exact HR.out i (by omega)
          clear HR
          go_wp2
          go_round
          case rel => exact ⟨k + 1, z + ((D k).size : Int), by omega, by go_num, rfl, by omega, by omega, HN⟩
          case measure => simp [intOf]; omega
    · have hke : k = n2 := by omega
      subst hke
      clear hD
      go_wp2
      go_ret
      exact ⟨⟨true, rfl, fun _ => ⟨by omega, by omega, by omega, HR.out⟩⟩, rfl⟩

theorem ended_any (p : Nat) (e s : Bool) (w : World) (h5 : w.cell? ⟨p, 5, none⟩ = some (.bool e)) (h7 : w.cell? ⟨p, 7, none⟩ = some (.bool s)) :
    Calls Try.prog 24 #[.pointer (some ⟨p, 0, none⟩)] w fun en w' => en = .returned (.bool (e && !s)) ∧ w = w' := by
  cases e
  · go_enter Try.func24, Try.ntmps24
    go_wp2
    go_ret
    exact ⟨rfl, rfl⟩
  · cases s
    all_goals
      go_enter Try.func24, Try.ntmps24
      go_wp2
      go_ret
      exact ⟨rfl, rfl⟩

end Go.Proofs.Qxb6601336a
