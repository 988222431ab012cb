/-
  ZZConvergence, WALKED.
-/
import Derived.Test.Qxb6601336aConverge
import Derived.StillTactics
import Derived.Laws.Pointers
import Derived.Deep.QuietTactic
import Derived.BigQuiet
import Derived.Deep.RegionHeld3
import Derived.Deep.DrawnRows
namespace Go.Proofs.Qxb6601336a
open Go.RowKit Cvg
attribute [local go_sem ↓] Go.wp_at_zero Go.wp_at_succ

/-- A node, as it is laid. -/
def node (e s : Bool) (d : ByteArray) : Obj := .cells #[.string ⟨#[]⟩, .int .i32 0, .string ⟨#[]⟩, .slice none 0 0, .slice none 0 0, .bool e, .string d, .bool s] 58

/-- One round: a node is laid, its pointer stored. -/
theorem zz_step {w w0 wr : World} {n k : Nat} {xs : List Value} {E S : Nat → Bool} {D : Nat → ByteArray} (hs0 : w.heap.size < w0.heap.size) (hlt : k < n) (HH : wr.heap.size = w0.heap.size + k)
    (hown : wr.ownsRow w.heap.size 54 1 (.slice (some ⟨w.heap.size, 0, none⟩) n n) n xs) (hxs : ∀ j, j < k → xs[j]? = some (.pointer (some ⟨w0.heap.size + j, 0, none⟩)))
    (HC : ∀ j, j < k → wr.cell? ⟨w0.heap.size + j, 5, none⟩ = some (.bool (E j)) ∧ wr.cell? ⟨w0.heap.size + j, 6, none⟩ = some (.string (D j)) ∧ wr.cell? ⟨w0.heap.size + j, 7, none⟩ = some (.bool (S j)))
    (hnx : Below w.heap.size w wr) :
    ((wr.setCell ⟨w.heap.size, k, none⟩ (.pointer (some ⟨wr.heap.size, 0, none⟩))).alloc (node (E k) (S k) (D k))).drew.heap.size = w0.heap.size + (k + 1) ∧
    ((wr.setCell ⟨w.heap.size, k, none⟩ (.pointer (some ⟨wr.heap.size, 0, none⟩))).alloc (node (E k) (S k) (D k))).drew.ownsRow w.heap.size 54 1 (.slice (some ⟨w.heap.size, 0, none⟩) n n) n (xs.set k (.pointer (some ⟨wr.heap.size, 0, none⟩))) ∧
    (∀ j, j < k + 1 → (xs.set k (.pointer (some ⟨wr.heap.size, 0, none⟩)))[j]? = some (.pointer (some ⟨w0.heap.size + j, 0, none⟩))) ∧
    (∀ j, j < k + 1 → ((wr.setCell ⟨w.heap.size, k, none⟩ (.pointer (some ⟨wr.heap.size, 0, none⟩))).alloc (node (E k) (S k) (D k))).drew.cell? ⟨w0.heap.size + j, 5, none⟩ = some (.bool (E j)) ∧
      ((wr.setCell ⟨w.heap.size, k, none⟩ (.pointer (some ⟨wr.heap.size, 0, none⟩))).alloc (node (E k) (S k) (D k))).drew.cell? ⟨w0.heap.size + j, 6, none⟩ = some (.string (D j)) ∧
      ((wr.setCell ⟨w.heap.size, k, none⟩ (.pointer (some ⟨wr.heap.size, 0, none⟩))).alloc (node (E k) (S k) (D k))).drew.cell? ⟨w0.heap.size + j, 7, none⟩ = some (.bool (S j))) ∧
    Below w.heap.size w ((wr.setCell ⟨w.heap.size, k, none⟩ (.pointer (some ⟨wr.heap.size, 0, none⟩))).alloc (node (E k) (S k) (D k))).drew := by
  obtain ⟨u, hu⟩ : ∃ u : Value, u = .pointer (some ⟨wr.heap.size, 0, none⟩) := ⟨_, rfl⟩
  rw [← hu]
  have hz : (wr.setCell ⟨w.heap.size, k, none⟩ u).heap.size = wr.heap.size := by simp
  have R := row_step (f := fun j => .pointer (some ⟨w0.heap.size + j, 0, none⟩)) (u := u) hown hlt hxs (by rw [hu, HH])
  refine ⟨?_, (R.1.alloc _).drew, R.2, fun j hj => ?_, ((hnx.setCell (Nat.le_refl _) _).alloc (by rw [hz]; exact hnx.size) _).drew⟩
  · have : ((wr.setCell ⟨w.heap.size, k, none⟩ u).alloc (node (E k) (S k) (D k))).drew.heap.size = (wr.setCell ⟨w.heap.size, k, none⟩ u).heap.size + 1 := by simp
    rw [this, hz, HH, Nat.add_assoc]
  · by_cases e : j = k
    · subst e
      have hnew : ∀ o, ((wr.setCell ⟨w.heap.size, j, none⟩ u).alloc (node (E j) (S j) (D j))).drew.cell? ⟨w0.heap.size + j, o, none⟩ = (#[Value.string ⟨#[]⟩, .int .i32 0, .string ⟨#[]⟩, .slice none 0 0, .slice none 0 0, .bool (E j), .string (D j), .bool (S j)])[o]? := fun o => by
        show ((wr.setCell ⟨w.heap.size, j, none⟩ u).alloc (node (E j) (S j) (D j))).cell? ⟨w0.heap.size + j, o, none⟩ = _
        unfold node
        exact World.cell?_alloc_at _ _ _ _ (by rw [hz, HH])
      rw [hnew, hnew, hnew]
      exact ⟨rfl, rfl, rfl⟩
    · have hold : ∀ o, ((wr.setCell ⟨w.heap.size, k, none⟩ u).alloc (node (E k) (S k) (D k))).drew.cell? ⟨w0.heap.size + j, o, none⟩ = wr.cell? ⟨w0.heap.size + j, o, none⟩ := fun o => by
        show ((wr.setCell ⟨w.heap.size, k, none⟩ u).alloc (node (E k) (S k) (D k))).cell? ⟨w0.heap.size + j, o, none⟩ = _
        rw [World.cell?_alloc_past _ _ _ (by rw [hz, HH]; omega)]
        exact World.cell?_setCell_far _ _ _ _ (by simp; omega)
      rw [hold, hold, hold]
      exact HC j (by omega)

set_option maxRecDepth 100000 in
set_option maxHeartbeats 4000000 in
theorem zz_any (a0 a1 a2 : Option Addr) (n c0 c1 c2 : Nat) (E S : Nat → Bool) (D : Nat → ByteArray) (w : World) (hn : n ≤ 65536)
    (hE : AtV w a0 n fun i => .bool (E i)) (hS : AtV w a1 n fun i => .bool (S i)) (hD : AtV w a2 n fun i => .string (D i)) :
    Calls Try.prog 10 #[.slice a0 n c0, .slice a1 n c1, .slice a2 n c2] w fun e w' => e = .returned (.string (verdict (mem E S D n))) ∧ Below w.heap.size w w' := by
  obtain ⟨i0, hi, hz0, hz1, hz2⟩ := info_parts Try.info54
  go_enter Try.func10, Try.ntmps10
  go_wp2_with (at_make; refine wpList_make_full _ rfl _ _ 53 rfl w.heap.size 54 i0 (.pointer none) 1 Try.underlying53 hi hz0 hz1 _ _ _ _ n rfl rfl rfl rfl ?b2 ?b3 (Nat.le_refl _) ?_)
  case b2 => rw [hz2]; omega
  case b3 => unfold maxLen; omega
  intro w0 hown0 hgrow0
  have hb0 : Below w.heap.size w w0 := (Below.refl _ _).grown hgrow0 (Nat.le_refl _) (fun k h => by cases h)
  have hs0 : w.heap.size < w0.heap.size := size_of_owns hown0
  clear hgrow0
  go_wp2
  go_loopw [14] (fun si wr => ∃ (k : Nat) (xs : List Value), k ≤ n ∧ si = .int .i64 k ∧ Hid (wr.heap.size = w0.heap.size + k) ∧ wr.ownsRow w.heap.size 54 1 (.slice (some ⟨w.heap.size, 0, none⟩) n n) n xs ∧
      (∀ j, j < k → xs[j]? = some (.pointer (some ⟨w0.heap.size + j, 0, none⟩))) ∧
      Hid (∀ j, j < k → wr.cell? ⟨w0.heap.size + j, 5, none⟩ = some (.bool (E j)) ∧ wr.cell? ⟨w0.heap.size + j, 6, none⟩ = some (.string (D j)) ∧ wr.cell? ⟨w0.heap.size + j, 7, none⟩ = some (.bool (S j))) ∧ Below w.heap.size w wr)
    (fun si _ => n - (intOf si).toNat)
  case atStart => exact ⟨0, _, Nat.zero_le _, rfl, rfl, hown0, fun j hj => by omega, fun j hj => by omega, hb0⟩
  case round =>
    obtain ⟨k, xs, hk, rfl, HH, hown, hxs, HC, hnx⟩ := hrel
    clear hown0 hb0
    by_cases hlt : k < n
    · obtain ⟨b0, o0, rfl, hl0, q0⟩ := hE.resolve_left (by omega)
      obtain ⟨b1, o1, rfl, hl1, q1⟩ := hS.resolve_left (by omega)
      obtain ⟨b2, o2, rfl, hl2, q2⟩ := hD.resolve_left (by omega)
      have g0 : wr.cell? ⟨b0, o0 + k, none⟩ = some (.bool (E k)) := (hnx.cell (by exact hl0)).trans (q0 k hlt)
      have g1 : wr.cell? ⟨b1, o1 + k, none⟩ = some (.bool (S k)) := (hnx.cell (by exact hl1)).trans (q1 k hlt)
      have g2 : wr.cell? ⟨b2, o2 + k, none⟩ = some (.string (D k)) := (hnx.cell (by exact hl2)).trans (q2 k hlt)
      have hsz : w.heap.size < wr.heap.size := by rw [HH.out]; omega
      have gf : wr.frozen? ⟨w.heap.size, k, none⟩ = false := hown.frozenAt k
      obtain ⟨v3, g3⟩ : ∃ v3, wr.cell? ⟨w.heap.size, k, none⟩ = some v3 := by
        rw [hown.cellAt k (by omega)]
        exact ⟨_, List.getElem?_eq_getElem (by rw [hown.1]; omega)⟩
      have e0 : w.heap.size ≠ b0 := by omega
      have e1 : w.heap.size ≠ b1 := by omega
      have e2 : w.heap.size ≠ b2 := by omega
      have i0' : (0 : Int) ≤ (k : Int) := Int.natCast_nonneg _
      have i1' : (k : Int) < (n : Int) := by omega
      clear hE hS hD q0 q1 q2
      go_wp2_with fail
      go_region_held3 (fun w' => w'.cell? ⟨b0, o0 + k, none⟩ = some (.bool (E k)) ∧ w'.cell? ⟨b1, o1 + k, none⟩ = some (.bool (S k)) ∧ w'.cell? ⟨b2, o2 + k, none⟩ = some (.string (D k)))
        (go_keep) (fail)
      have R := zz_step hs0 hlt HH.out hown hxs HC.out hnx
      unfold node at R
      have HR : Hid _ := R
      clear R hown hxs HC hnx HH
      go_wp2
      go_roundw
      case rel => exact ⟨k + 1, _, by omega, by go_num, HR.out.1, HR.out.2.1, HR.out.2.2.1, HR.out.2.2.2.1, HR.out.2.2.2.2⟩
      case measure => simp [intOf]; omega
    · have hke : k = n := by omega
      subst hke
      have hlogs : Logs wr w.heap.size k (fun j => w0.heap.size + j) E S D := fun i hi => by
        obtain ⟨x, y, z⟩ := HC.out i hi
        exact ⟨(hown.cellAt i (by omega)).trans (hxs i hi), x, y, z⟩
      have HC' : Hid (Logs wr w.heap.size k (fun j => w0.heap.size + j) E S D) := hlogs
      clear hlogs HC HH hE hS hD hown hxs
      go_wp2_with fail
      refine (converge_any w.heap.size k k (fun j => w0.heap.size + j) E S D wr hn HC'.out).mono ?_
      rintro e w2 ⟨rfl, b2⟩
      go_wp2
      go_ret
      exact ⟨rfl, hnx.trans (b2.mono hnx.size)⟩

end Go.Proofs.Qxb6601336a
