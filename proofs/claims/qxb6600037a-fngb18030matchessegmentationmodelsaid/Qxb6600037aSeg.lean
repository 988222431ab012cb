/-
  THE SEGMENTATION MODEL's STEPS: no Go in sight.
-/
import Derived.Test.Qxb6600037aGb
namespace Go.Proofs.Qxb6600037a.Gb

theorem seg_skip {zs : List Int} {i : Nat} {r : List Bool} (h : Seg zs i r) (hi : i < zs.length) (hr : r.getD i false = false) : Seg zs (i + 1) r := by
  have := seg_step zs i r hi h
  unfold segAt at this
  rw [if_neg (by rw [hr]; simp)] at this
  exact this

theorem seg_one {zs : List Int} {i : Nat} {r : List Bool} (h : Seg zs i r) (hi : i < zs.length) (hr : r.getD i false = true) (h0 : zs.getD i 0 < 128) : Seg zs (i + 1) (r.set (i + 1) true) := by
  have hl : lead (zs.getD i 0) = false := (lead_not _).2 (by omega)
  have := seg_step zs i r hi h
  unfold segAt at this
  rw [if_pos hr] at this
  simp only [if_pos h0, hl] at this
  rw [if_neg (by simp), if_neg (by simp)] at this
  exact this

theorem seg_two {zs : List Int} {i : Nat} {r : List Bool} (h : Seg zs i r) (hi : i + 2 ≤ zs.length) (hr : r.getD i false = true) (h0 : lead (zs.getD i 0) = true) (h1 : trail (zs.getD (i + 1) 0) = true) :
    Seg zs (i + 1) (r.set (i + 2) true) := by
  have hn : ¬ zs.getD i 0 < 128 := by have := (lead_iff _).1 h0; omega
  have hd : digit (zs.getD (i + 1) 0) = false := by
    cases hd : digit (zs.getD (i + 1) 0)
    · rfl
    · rw [trail_of_digit _ hd] at h1; cases h1
  have := seg_step zs i r (by omega) h
  unfold segAt at this
  rw [if_pos hr] at this
  simp only [if_neg hn] at this
  rw [if_neg (by rw [hd]; simp), if_pos ⟨hi, h0, h1⟩] at this
  exact this

theorem seg_four {zs : List Int} {i : Nat} {r : List Bool} (h : Seg zs i r) (hi : i + 4 ≤ zs.length) (hr : r.getD i false = true) (h0 : lead (zs.getD i 0) = true) (h1 : digit (zs.getD (i + 1) 0) = true)
    (h2 : lead (zs.getD (i + 2) 0) = true) (h3 : digit (zs.getD (i + 3) 0) = true) : Seg zs (i + 1) (r.set (i + 4) true) := by
  have hn : ¬ zs.getD i 0 < 128 := by have := (lead_iff _).1 h0; omega
  have ht := trail_of_digit _ h1
  have := seg_step zs i r (by omega) h
  unfold segAt at this
  rw [if_pos hr] at this
  simp only [if_neg hn] at this
  rw [if_pos ⟨hi, h0, h1, h2, h3⟩, if_neg (by rw [ht]; simp)] at this
  exact this

theorem seg_none {zs : List Int} {i : Nat} {r : List Bool} (h : Seg zs i r) (hi : i < zs.length) (hr : r.getD i false = true) (hn : ¬ zs.getD i 0 < 128)
    (h2 : ¬ (i + 2 ≤ zs.length ∧ lead (zs.getD i 0) = true ∧ trail (zs.getD (i + 1) 0) = true))
    (h4 : ¬ (i + 4 ≤ zs.length ∧ lead (zs.getD i 0) = true ∧ digit (zs.getD (i + 1) 0) = true ∧ lead (zs.getD (i + 2) 0) = true ∧ digit (zs.getD (i + 3) 0) = true)) : Seg zs (i + 1) r := by
  have := seg_step zs i r hi h
  unfold segAt at this
  rw [if_pos hr] at this
  simp only [if_neg hn] at this
  rw [if_neg h4, if_neg h2] at this
  exact this

end Go.Proofs.Qxb6600037a.Gb
