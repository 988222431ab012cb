/-
  ZZIsGB18030's CONTRACT IN ONE FORM; a slice of bytes that came in.
-/
import Derived.Test.Qxb6600037aIs
import Derived.Test.Qxb6600037aClones
import Derived.ProofKit
namespace Go.Proofs.Qxb6600037a
open Go.RowKit Go.WideShapes Gb

theorem is_zero (a : Option Addr) (cap : Nat) (w : World) :
    Calls Try.prog 21 #[.slice a 0 cap] w fun e w' => e = .returned (.bool true) ∧ w' = w := by
  go_enter Try.func21, Try.ntmps21
  go_wp2
  refine wp_loop_rounds 1 ?_
  rw [rounds_succ]
  go_wp2
  go_ret
  exact ⟨rfl, rfl⟩

theorem is_all (a : Option Addr) (len cap : Nat) (zs : List Int) (w : World) (h : At .u8 w a len zs) (hlen : len ≤ 1000000000) (hcap : len ≤ cap) :
    Calls Try.prog 13 #[.slice a len cap] w fun e w' => e = .returned (.bool (gb zs)) ∧ w = w' := by
  have key : Calls Try.prog 21 #[.slice a len cap] w fun e w' => e = .returned (.bool (gb zs)) ∧ w' = w := by
    obtain ⟨hl, h⟩ := h
    rcases h with h | ⟨b, off, e, _, hc⟩
    · subst h
      have : zs = [] := List.eq_nil_of_length_eq_zero hl
      subst this
      exact is_zero a cap w
    · subst e
      exact is_any b off len cap zs w hl hlen hcap hc
  go_enter Try.func13, Try.ntmps13
  go_wp2_with fail
  refine key.mono ?_
  rintro e w' ⟨rfl, rfl⟩
  clear key
  go_wp2
  go_ret
  exact ⟨rfl, rfl⟩

/-- What the walk is told of a slice of integers that came in, in the form that the clones ask. -/
theorem came_in {kd : IntKind} {w : World} {a0 : Option Addr} {len0 cap0 : Nat} {z0 : List Int}
    (w0 : (a0 = none ∧ len0 = 0 ∧ cap0 = 0 ∧ z0 = []) ∨
      ∃ x, a0 = some x ∧ len0 ≤ cap0 ∧ cap0 ≤ maxLen ∧ z0.length = cap0 ∧ (∀ i, i < z0.length → w.cell? (x.add i) = some (.int kd (z0.getD i 0))) ∧ ∀ n ∈ z0, (Lit.int kd n).wf = true) :
    len0 ≤ maxLen ∧ (a0 = none ∧ len0 = 0 ∧ cap0 = 0 ∨ ∃ x, a0 = some x ∧ len0 ≤ z0.length ∧ (len0 = 0 ∨ (x.spot = none ∧ x.block < w.heap.size)) ∧ ∀ i, i < len0 → w.cell? ⟨x.block, x.off + i, none⟩ = some (.int kd (z0.getD i 0))) := by
  rcases w0 with ⟨rfl, rfl, rfl, rfl⟩ | ⟨x, rfl, hl, hm, hz, hcell, _⟩
  · exact ⟨Nat.zero_le _, .inl ⟨rfl, rfl, rfl⟩⟩
  · refine ⟨by omega, .inr ⟨x, rfl, by omega, ?_, fun i hi => ?_⟩⟩
    · by_cases h0 : len0 = 0
      · exact .inl h0
      · have hc := hcell 0 (by omega)
        exact .inr ⟨by simpa [Addr.add] using World.cell?_spot hc, World.block_lt_of_cell? _ _ hc⟩
    · have hc := hcell i (by omega)
      have hs : x.spot = none := by simpa [Addr.add] using World.cell?_spot (hcell 0 (by omega))
      obtain ⟨b, off, spot⟩ := x
      simp only at hs
      subst hs
      show w.cell? ⟨b, off + i, none⟩ = _
      rw [← add_plain]
      exact hc

end Go.Proofs.Qxb6600037a
