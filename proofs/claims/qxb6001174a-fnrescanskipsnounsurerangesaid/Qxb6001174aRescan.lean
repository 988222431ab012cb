/-
  rescan AND ZZRescan, WALKED.
-/
import Derived.Test.Qxb6001174aRanges
import Derived.StillTactics
import Derived.Laws.Pointers
import Derived.Deep.QuietTactic
import Derived.BigQuiet
import Derived.Deep.RegionHeld3
import Derived.Deep.RegionLaw
import Derived.Deep.DrawnRows
import Derived.WalkSmall
import Derived.OwnWalk
import Derived.Deep.AppendLies
namespace Go.Proofs.Qxb6001174a
open Go.RowKit
attribute [local go_sem ↓] Go.wp_at_zero Go.wp_at_succ

theorem Try.info41 : (Try.prog.info? 41).map (fun i => (i.zero, i.size, i.bytes)) = some (some (.agg #[.int .i64 0, .int .i64 0, .int .i64 0]), 3, 24) := by kernel_rfl

theorem own_ne {w : World} {base : Nat} {e : TypeId} {size : Nat} {v : Value} {n : Nat} {xs : List Value} (h : w.ownsRow base e size v n xs) (x : Nat) (hx : x < base) : v.ownBlock ≠ some x := by
  rcases h.2 with ⟨rfl, _⟩ | ⟨g, cap, cur, rfl, hb, _⟩
  · simp [Value.ownBlock]
  · simp [Value.ownBlock]; omega

theorem own_ge {w : World} {base : Nat} {e : TypeId} {size : Nat} {v : Value} {n : Nat} {xs : List Value} (h : w.ownsRow base e size v n xs) (x : Nat) (hx : v.ownBlock = some x) : base ≤ x := by
  rcases Nat.lt_or_ge x base with hlt | hge
  · exact absurd hx (own_ne h x hlt)
  · exact hge

/-- rescan with no unsure range: nothing happens. -/
theorem rescan_none (c : Nat) (us : Option Addr) (cap : Nat) (w : World) (h2 : w.cell? ⟨c, 2, none⟩ = some (.slice us 0 cap)) :
    Calls Try.prog 25 #[.pointer (some ⟨c, 0, none⟩)] w fun e w' => e = .returned (.tuple #[]) ∧ w' = w := by
  go_enter Try.func25, Try.ntmps25
  go_wp2
  go_end0
  exact ⟨rfl, rfl⟩

/-- rescan with some: 'after' is the first one's start. -/
theorem rescan_some (c u n cap : Nat) (f : Int) (a0 : Value) (w : World) (hn : 0 < n) (h0 : w.cell? ⟨c, 0, none⟩ = some a0) (hf : w.frozen? ⟨c, 0, none⟩ = false)
    (h2 : w.cell? ⟨c, 2, none⟩ = some (.slice (some ⟨u, 0, none⟩) n cap)) (hu : w.cell? ⟨u, 0, none⟩ = some (.int .i64 f)) :
    Calls Try.prog 25 #[.pointer (some ⟨c, 0, none⟩)] w fun e w' => e = .returned (.tuple #[]) ∧ w' = w.setCell ⟨c, 0, none⟩ (.int .i64 f) := by
  have hn' : (0 : Int) < (n : Int) := by omega
  go_enter Try.func25, Try.ntmps25
  go_wp2
  go_end0
  exact ⟨rfl, rfl⟩

theorem frozen_kept {wr : World} {c j : Nat} {o : Obj} (h : c < wr.heap.size) (hf : wr.frozen? ⟨c, j, none⟩ = false) : (wr.alloc o).drew.frozen? ⟨c, j, none⟩ = false := by
  have hb : Below wr.heap.size wr (wr.alloc o).drew := ((Below.refl _ _).alloc (Nat.le_refl _) o).drew
  rw [hb.frozen (p := ⟨c, j, none⟩) h]
  exact hf

theorem triples_snoc {F T X : Nat → Int} {k : Nat} {xs : List Value} (h : Triples F T X k xs) (hl : xs.length = k * 3) :
    Triples F T X (k + 1) (xs ++ [.int .i64 (F k), .int .i64 (T k), .int .i64 (X k)]) := by
  intro i hi
  by_cases e : i = k
  · subst e
    rw [List.getElem?_append_right (by omega), List.getElem?_append_right (by omega), List.getElem?_append_right (by omega), hl]
    simp
  · obtain ⟨a, b, c⟩ := h i (by omega)
    rw [List.getElem?_append_left (by omega), List.getElem?_append_left (by omega), List.getElem?_append_left (by omega)]
    exact ⟨a, b, c⟩

/-- One round of the first loop: an append, stored back into the field. -/
theorem round1 {w wr w1 : World} {o : Obj} {v : Value} {k gg cap1 : Nat} {xs : List Value} {F T X : Nat → Int} {after frontier : Int} (hnx : Below w.heap.size w wr) (hsz : w.heap.size < wr.heap.size)
    (hgrow : (wr.alloc o).drew.grownBy w1 v.ownBlock) (hown : wr.ownsRow (w.heap.size + 1) 41 3 v k xs)
    (hown1 : w1.ownsRow (w.heap.size + 1) 41 3 (.slice (some ⟨gg, 0, none⟩) (k + 1) cap1) (k + 1) (xs ++ [.int .i64 (F k), .int .i64 (T k), .int .i64 (X k)]))
    (hc0 : wr.cell? ⟨w.heap.size, 0, none⟩ = some (.int .i64 after)) (hc1 : wr.cell? ⟨w.heap.size, 1, none⟩ = some (.int .i64 frontier))
    (hc2 : wr.cell? ⟨w.heap.size, 2, none⟩ = some v) (hf0 : wr.frozen? ⟨w.heap.size, 0, none⟩ = false) (hf2 : wr.frozen? ⟨w.heap.size, 2, none⟩ = false) (hxs : Triples F T X k xs) :
    (w1.setCell ⟨w.heap.size, 2, none⟩ (.slice (some ⟨gg, 0, none⟩) (k + 1) cap1)).cell? ⟨w.heap.size, 0, none⟩ = some (.int .i64 after) ∧
    (w1.setCell ⟨w.heap.size, 2, none⟩ (.slice (some ⟨gg, 0, none⟩) (k + 1) cap1)).cell? ⟨w.heap.size, 1, none⟩ = some (.int .i64 frontier) ∧
    (w1.setCell ⟨w.heap.size, 2, none⟩ (.slice (some ⟨gg, 0, none⟩) (k + 1) cap1)).cell? ⟨w.heap.size, 2, none⟩ = some (.slice (some ⟨gg, 0, none⟩) (k + 1) cap1) ∧
    (w1.setCell ⟨w.heap.size, 2, none⟩ (.slice (some ⟨gg, 0, none⟩) (k + 1) cap1)).frozen? ⟨w.heap.size, 0, none⟩ = false ∧
    (w1.setCell ⟨w.heap.size, 2, none⟩ (.slice (some ⟨gg, 0, none⟩) (k + 1) cap1)).frozen? ⟨w.heap.size, 2, none⟩ = false ∧
    (w1.setCell ⟨w.heap.size, 2, none⟩ (.slice (some ⟨gg, 0, none⟩) (k + 1) cap1)).ownsRow (w.heap.size + 1) 41 3 (.slice (some ⟨gg, 0, none⟩) (k + 1) cap1) (k + 1) (xs ++ [.int .i64 (F k), .int .i64 (T k), .int .i64 (X k)]) ∧
    Triples F T X (k + 1) (xs ++ [.int .i64 (F k), .int .i64 (T k), .int .i64 (X k)]) ∧
    w.heap.size < (w1.setCell ⟨w.heap.size, 2, none⟩ (.slice (some ⟨gg, 0, none⟩) (k + 1) cap1)).heap.size ∧
    Below w.heap.size w (w1.setCell ⟨w.heap.size, 2, none⟩ (.slice (some ⟨gg, 0, none⟩) (k + 1) cap1)) := by
  have ag := own_ne hown w.heap.size (by omega)
  have hb0 : Below wr.heap.size wr (wr.alloc o).drew := ((Below.refl _ _).alloc (Nat.le_refl _) o).drew
  have cf : ∀ j, w1.cell? ⟨w.heap.size, j, none⟩ = wr.cell? ⟨w.heap.size, j, none⟩ := fun j => by
    rw [hgrow.cell_far _ (by simp; omega) (Ne.symm ag)]
    exact hb0.cell (p := ⟨w.heap.size, j, none⟩) hsz
  have ff : ∀ j, w1.frozen? ⟨w.heap.size, j, none⟩ = wr.frozen? ⟨w.heap.size, j, none⟩ := fun j => by
    rw [hgrow.frozen_far _ (by simp; omega) (Ne.symm ag)]
    exact hb0.frozen (p := ⟨w.heap.size, j, none⟩) hsz
  have k0 := (cf 0).trans hc0
  have k1 := (cf 1).trans hc1
  have k2 := (cf 2).trans hc2
  have f0 := (ff 0).trans hf0
  have f2 := (ff 2).trans hf2
  have hs1 : wr.heap.size ≤ w1.heap.size := by have := hgrow.size; simp at this; omega
  have hb1 : Below w.heap.size w w1 := (hnx.alloc hnx.size o).drew.grown hgrow (by simp; omega) (fun q hq => by have := own_ge hown q hq; omega)
  refine ⟨?_, ?_, ?_, ?_, ?_, ownsRow_setCell_below hown1 (by simp) _, triples_snoc hxs hown.1, by simp; omega, hb1.setCell (Nat.le_refl _) _⟩
  · simp [go_sem, k0]
  · simp [go_sem, k1]
  · simp [go_sem, k2]
  · simpa [go_sem] using f0
  · simpa [go_sem] using f2

/-- What stands behind rescan's store. -/
theorem after1 {w wr W2 : World} {k u cu : Nat} {F T X : Nat → Int} {after frontier : Int} (hw : W2 = wr.setCell ⟨w.heap.size, 0, none⟩ (.int .i64 (F 0))) (hnx : Below w.heap.size w wr)
    (hul : w.heap.size + 1 ≤ u) (hus : u < wr.heap.size) (hc0 : wr.cell? ⟨w.heap.size, 0, none⟩ = some (.int .i64 after)) (hc1 : wr.cell? ⟨w.heap.size, 1, none⟩ = some (.int .i64 frontier))
    (hc2 : wr.cell? ⟨w.heap.size, 2, none⟩ = some (.slice (some ⟨u, 0, none⟩) k cu))
    (hu : ∀ i, i < k → wr.cell? ⟨u, i * 3, none⟩ = some (.int .i64 (F i)) ∧ wr.cell? ⟨u, i * 3 + 1, none⟩ = some (.int .i64 (T i)) ∧ wr.cell? ⟨u, i * 3 + 2, none⟩ = some (.int .i64 (X i))) :
    W2.cell? ⟨w.heap.size, 0, none⟩ = some (.int .i64 (F 0)) ∧ W2.cell? ⟨w.heap.size, 1, none⟩ = some (.int .i64 frontier) ∧ W2.cell? ⟨w.heap.size, 2, none⟩ = some (.slice (some ⟨u, 0, none⟩) k cu) ∧
      (∀ i, i < k → W2.cell? ⟨u, i * 3, none⟩ = some (.int .i64 (F i)) ∧ W2.cell? ⟨u, i * 3 + 1, none⟩ = some (.int .i64 (T i)) ∧ W2.cell? ⟨u, i * 3 + 2, none⟩ = some (.int .i64 (X i))) ∧
      u < W2.heap.size ∧ Below w.heap.size w W2 := by
  subst hw
  have far : ∀ o, (wr.setCell ⟨w.heap.size, 0, none⟩ (.int .i64 (F 0))).cell? ⟨u, o, none⟩ = wr.cell? ⟨u, o, none⟩ := fun o => World.cell?_setCell_far _ _ _ _ (by simp; omega)
  refine ⟨?_, ?_, ?_, fun i hi => by rw [far, far, far]; exact hu i hi, by simpa using hus, hnx.setCell (Nat.le_refl _) _⟩
  · simp [go_sem, hc0]
  · simp [go_sem, hc1]
  · simp [go_sem, hc2]

end Go.Proofs.Qxb6001174a
