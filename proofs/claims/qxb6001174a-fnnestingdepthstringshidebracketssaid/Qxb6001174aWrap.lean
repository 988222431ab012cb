/-
  zzCloneBytes AND zzWrap, WALKED: new rows of bytes.
-/
import Derived.Test.Qxb6001174aRows
import Derived.WalkKit
import Derived.WalkSpells
import Derived.WalkLawsBesides
namespace Go.Proofs.Qxb6001174a
open Go.RowKit

theorem Try.info5 : (Try.prog.info? 5).map (fun i => (i.zero, i.size, i.bytes)) = some (some (.int .u8 0), 1, 1) := by kernel_rfl

theorem clone_nil (w : World) : Calls Try.prog 12 #[.slice none 0 0] w fun e w' => e = .returned (.slice none 0 0) ∧ w' = w := by
  have hq := fun w a n c => Lib.run_eql_slice_nil (P := Try.prog) w 23 5 a n c 0 0 Try.underlying23
  go_enter Try.func12, Try.ntmps12
  go_wp2
  go_ret
  exact ⟨rfl, rfl⟩

/-- What is stored at place k of an owned row. -/
theorem row_step {wr : World} {B len k : Nat} {xs : List Value} {u : Value} {f : Nat → Value}
    (hown : wr.ownsRow B 5 1 (.slice (some ⟨B, 0, none⟩) len len) len xs) (hk : k < len) (hf : ∀ j, j < k → xs[j]? = some (f j)) (hu : u = f k) :
    (wr.setCell ⟨B, k, none⟩ u).ownsRow B 5 1 (.slice (some ⟨B, 0, none⟩) len len) len (xs.set k u) ∧ ∀ j, j < k + 1 → (xs.set k u)[j]? = some (f j) := by
  refine ⟨(hown.stored k u).1, fun j hj => ?_⟩
  rw [List.getElem?_set]
  by_cases e : k = j
  · subst e
    have : k < xs.length := by rw [hown.1]; omega
    simp [this, hu]
  · rw [if_neg e]
    exact hf j (by omega)

theorem size_of_owns {wr : World} {B g n cap : Nat} {e : TypeId} {xs : List Value} (hown : wr.ownsRow B e 1 (.slice (some ⟨g, 0, none⟩) n cap) n xs) : g < wr.heap.size := by
  rcases hown.2 with ⟨h, _⟩ | ⟨g', cap', cur, h, _, hg, _⟩
  · simp at h
  · simp only [Value.slice.injEq, Option.some.injEq, Addr.mk.injEq, and_true, true_and] at h
    obtain ⟨rfl, _⟩ := h
    rcases Nat.lt_or_ge g wr.heap.size with h1 | h1
    · exact h1
    · rw [Array.getElem?_eq_none h1] at hg
      simp at hg

set_option maxHeartbeats 1000000 in
theorem clone_any (x : Addr) (len cap : Nat) (zs : List Int) (w : World) (hlen : len ≤ 1000000000) (hx : len = 0 ∨ (x.spot = none ∧ x.block < w.heap.size))
    (hcell : ∀ i, i < len → w.cell? ⟨x.block, x.off + i, none⟩ = some (.int .u8 (zs.getD i 0))) :
    Calls Try.prog 12 #[.slice (some x) len cap] w fun e w' => e = .returned (.slice (some ⟨w.heap.size, 0, none⟩) len len) ∧
      (∀ i, i < len → w'.cell? ⟨w.heap.size, i, none⟩ = some (.int .u8 (zs.getD i 0))) ∧ w.heap.size < w'.heap.size ∧ Below w.heap.size w w' := by
  obtain ⟨i0, hi, hz0, hz1, hz2⟩ := info_parts Try.info5
  have hq := fun w a n c => Lib.run_eql_slice_nil (P := Try.prog) w 23 5 a n c 0 0 Try.underlying23
  go_enter Try.func12, Try.ntmps12
  go_wp2_with (at_make; refine wpList_make_full _ rfl _ _ 23 rfl w.heap.size 5 i0 (.int .u8 0) 1 Try.underlying23 hi hz0 hz1 _ _ _ _ len rfl rfl rfl rfl ?b2 ?b3 (Nat.le_refl _) ?_)
  case b2 => rw [hz2]; omega
  case b3 => unfold maxLen; omega
  intro w0 hown0 hgrow0
  go_wp2
  go_loopw [4] (fun si wr => ∃ (k : Nat) (xs : List Value), k ≤ len ∧ si = .int .i64 k ∧ wr.ownsRow w.heap.size 5 1 (.slice (some ⟨w.heap.size, 0, none⟩) len len) len xs ∧ (∀ j, j < k → xs[j]? = some (.int .u8 (zs.getD j 0))) ∧ w.heap.size < wr.heap.size ∧ Below w.heap.size w wr)
    (fun si _ => len - (intOf si).toNat)
  case atStart => exact ⟨0, _, Nat.zero_le _, rfl, hown0, fun j hj => by omega, size_of_owns hown0, (Below.refl _ _).grown hgrow0 (Nat.le_refl _) (fun k h => by cases h)⟩
  case round =>
    obtain ⟨k, xs, hk, rfl, hown, hxs, hsz, hnx⟩ := hrel
    clear hown0 hgrow0
    by_cases hlt : k < len
    · obtain ⟨hsp, hbl⟩ : x.spot = none ∧ x.block < w.heap.size := hx.resolve_left (by omega)
      obtain ⟨b, off, spot⟩ := x
      simp only at hsp hbl hcell
      subst hsp
      have hcx : wr.cell? ⟨b, off + k, none⟩ = some (.int .u8 (zs.getD k 0)) := (hnx.cell (by exact hbl)).trans (hcell k hlt)
      have hfz : wr.frozen? ⟨w.heap.size, k, none⟩ = false := hown.frozenAt k
      obtain ⟨v3, hv3⟩ : ∃ v3, wr.cell? ⟨w.heap.size, k, none⟩ = some v3 := by
        rw [hown.cellAt k (by omega)]
        exact ⟨_, List.getElem?_eq_getElem (by rw [hown.1]; omega)⟩
      have R := row_step hown hlt hxs rfl
      have hbs : Below w.heap.size w (wr.setCell ⟨w.heap.size, k, none⟩ (.int .u8 (zs.getD k 0))) := hnx.setCell (Nat.le_refl _) _
      clear hx hcell hown hxs hnx hq
      go_wp2
      go_roundw
      case rel => exact ⟨k + 1, _, by omega, by go_num, R.1, R.2, by simpa using hsz, hbs⟩
      case measure => simp [intOf]; omega
    · have hke : k = len := by omega
      subst hke
      go_wp2
      go_ret
      exact ⟨rfl, fun i h => by rw [hown.cellAt i (by omega)]; exact hxs i h, hsz, hnx⟩

theorem wrapped_mid (o c : Int) (zs : List Int) (k : Nat) (h : k < zs.length) : (o :: (zs ++ [c])).getD (k + 1) 0 = zs.getD k 0 := by
  simp only [List.getD_eq_getElem?_getD, List.getElem?_cons_succ]
  rw [List.getElem?_append_left h]
theorem wrapped_end (o c : Int) (zs : List Int) : (o :: (zs ++ [c])).getD (zs.length + 1) 0 = c := by
  simp [List.getD_eq_getElem?_getD]

set_option maxHeartbeats 1000000 in
theorem wrap_any (o c : Int) (a : Option Addr) (len cap : Nat) (zs : List Int) (w : World) (hz : zs.length = len) (hlen : len ≤ 1000000000)
    (hx : len = 0 ∨ ∃ b off, a = some ⟨b, off, none⟩ ∧ b < w.heap.size ∧ ∀ i, i < len → w.cell? ⟨b, off + i, none⟩ = some (.int .u8 (zs.getD i 0))) :
    Calls Try.prog 14 #[.int .u8 o, .int .u8 c, .slice a len cap] w fun e w' => e = .returned (.slice (some ⟨w.heap.size, 0, none⟩) (len + 2) (len + 2)) ∧
      (∀ i, i < len + 2 → w'.cell? ⟨w.heap.size, i, none⟩ = some (.int .u8 ((o :: (zs ++ [c])).getD i 0))) ∧ w.heap.size < w'.heap.size ∧ Below w.heap.size w w' := by
  obtain ⟨i0, hi, hz0, hz1, hz2⟩ := info_parts Try.info5
  have HZ : Hid (zs.length = len) := hz
  clear hz
  go_enter Try.func14, Try.ntmps14
  go_wp2_with (at_make; refine wpList_make_full _ rfl _ _ 23 rfl w.heap.size 5 i0 (.int .u8 0) 1 Try.underlying23 hi hz0 hz1 _ _ _ _ (len + 2) rfl rfl (by omega) (by omega) ?b2 ?b3 (Nat.le_refl _) ?_)
  case b2 => rw [hz2]; omega
  case b3 => unfold maxLen; omega
  intro w0 hown0 hgrow0
  have hfz : w0.frozen? ⟨w.heap.size, 0, none⟩ = false := hown0.frozenAt 0
  obtain ⟨v0, hv0⟩ : ∃ v0, w0.cell? ⟨w.heap.size, 0, none⟩ = some v0 := by
    rw [hown0.cellAt 0 (by omega)]
    exact ⟨_, List.getElem?_eq_getElem (by rw [hown0.1]; omega)⟩
  have R0 := row_step (k := 0) (f := fun j => .int .u8 ((o :: (zs ++ [c])).getD j 0)) (u := .int .u8 o) hown0 (by omega) (fun j hj => by omega) rfl
  have hb0 : Below w.heap.size w w0 := (Below.refl _ _).grown hgrow0 (Nat.le_refl _) (fun k h => by cases h)
  have hs0 : w.heap.size < w0.heap.size := size_of_owns hown0
  clear hown0 hgrow0
  go_wp2
  go_loopw [8] (fun si wr => ∃ (k : Nat) (xs : List Value), k ≤ len ∧ si = .int .i64 k ∧ wr.ownsRow w.heap.size 5 1 (.slice (some ⟨w.heap.size, 0, none⟩) (len + 2) (len + 2)) (len + 2) xs ∧ (∀ j, j < k + 1 → xs[j]? = some (.int .u8 ((o :: (zs ++ [c])).getD j 0))) ∧ w.heap.size < wr.heap.size ∧ Below w.heap.size w wr)
    (fun si _ => len - (intOf si).toNat)
  case atStart => exact ⟨0, _, Nat.zero_le _, rfl, R0.1, R0.2, by simpa using hs0, hb0.setCell (Nat.le_refl _) _⟩
  case round =>
    obtain ⟨k, xs, hk, rfl, hown, hxs, hsz, hnx⟩ := hrel
    clear R0 hb0 hs0 hfz hv0
    by_cases hlt : k < len
    · obtain ⟨b, off, rfl, hbl, hcell⟩ := hx.resolve_left (by omega)
      have hcx : wr.cell? ⟨b, off + k, none⟩ = some (.int .u8 (zs.getD k 0)) := (hnx.cell (by exact hbl)).trans (hcell k hlt)
      have hfz : wr.frozen? ⟨w.heap.size, k + 1, none⟩ = false := hown.frozenAt (k + 1)
      obtain ⟨v3, hv3⟩ : ∃ v3, wr.cell? ⟨w.heap.size, k + 1, none⟩ = some v3 := by
        rw [hown.cellAt (k + 1) (by omega)]
        exact ⟨_, List.getElem?_eq_getElem (by rw [hown.1]; omega)⟩
      have R := row_step (u := .int .u8 (zs.getD k 0)) hown (by omega) hxs (by rw [wrapped_mid o c zs k (by rw [HZ.out]; exact hlt)])
      have hbs : Below w.heap.size w (wr.setCell ⟨w.heap.size, k + 1, none⟩ (.int .u8 (zs.getD k 0))) := hnx.setCell (Nat.le_refl _) _
      clear hx hcell hown hxs hnx
      go_wp2
      go_roundw
      case rel => exact ⟨k + 1, _, by omega, by go_num, R.1, R.2, by simpa using hsz, hbs⟩
      case measure => simp [intOf]; omega
    · have hke : k = len := by omega
      subst hke
      have hfz : wr.frozen? ⟨w.heap.size, k + 1, none⟩ = false := hown.frozenAt (k + 1)
      obtain ⟨v3, hv3⟩ : ∃ v3, wr.cell? ⟨w.heap.size, k + 1, none⟩ = some v3 := by
        rw [hown.cellAt (k + 1) (by omega)]
        exact ⟨_, List.getElem?_eq_getElem (by rw [hown.1]; omega)⟩
      have R := row_step (u := .int .u8 c) hown (by omega) hxs (by rw [← HZ.out, wrapped_end])
      have hbs : Below w.heap.size w (wr.setCell ⟨w.heap.size, k + 1, none⟩ (.int .u8 c)) := hnx.setCell (Nat.le_refl _) _
      clear hx hown hxs hnx
      go_wp2
      go_ret
      exact ⟨rfl, fun i h => by rw [R.1.cellAt i (by omega)]; exact R.2 i (by omega), by simpa using hsz, hbs⟩

end Go.Proofs.Qxb6001174a
