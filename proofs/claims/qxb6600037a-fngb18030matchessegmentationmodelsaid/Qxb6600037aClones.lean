/-
  ROWS OF INTEGERS; zzClone_ofdfile_b1, zzCloneU32_ofdfile_b1, WALKED.
-/
import Derived.Test.Qxb6600037aRows
import Derived.WalkKit
import Derived.WalkSpells
import Derived.WalkLawsBesides
namespace Go.Proofs.Qxb6600037a
open Go.RowKit

theorem Try.info5 : (Try.prog.info? 5).map (fun i => (i.zero, i.size, i.bytes)) = some (some (.int .u8 0), 1, 1) := by kernel_rfl
theorem Try.info28 : (Try.prog.info? 28).map (fun i => (i.zero, i.size, i.bytes)) = some (some (.int .u32 0), 1, 4) := by kernel_rfl
theorem Try.info4 : (Try.prog.info? 4).map (fun i => (i.zero, i.size, i.bytes)) = some (some (.bool false), 1, 1) := by kernel_rfl

/-- The slice (a, len) holds the numbers zs in w: it is empty, or it leads to a row of them. -/
def At (kd : IntKind) (w : World) (a : Option Addr) (len : Nat) (zs : List Int) : Prop :=
  zs.length = len ∧ (len = 0 ∨ ∃ b off, a = some ⟨b, off, none⟩ ∧ b < w.heap.size ∧ ∀ i, i < len → w.cell? ⟨b, off + i, none⟩ = some (.int kd (zs.getD i 0)))

theorem At.later {kd : IntKind} {w w' : World} {a : Option Addr} {len : Nat} {zs : List Int} (h : At kd w a len zs) (hb : Below w.heap.size w w') : At kd w' a len zs := by
  obtain ⟨hl, h⟩ := h
  refine ⟨hl, ?_⟩
  rcases h with h | ⟨b, off, e, hlt, hc⟩
  · exact .inl h
  · exact .inr ⟨b, off, e, Nat.lt_of_lt_of_le hlt hb.size, fun i hi => (hb.cell (p := ⟨b, off + i, none⟩) hlt).trans (hc i hi)⟩

/-- What is stored at place k of an owned row. -/
theorem row_step {wr : World} {B len k : Nat} {el : TypeId} {xs : List Value} {u : Value} {f : Nat → Value}
    (hown : wr.ownsRow B el 1 (.slice (some ⟨B, 0, none⟩) len len) len xs) (hk : k < len) (hf : ∀ j, j < k → xs[j]? = some (f j)) (hu : u = f k) :
    (wr.setCell ⟨B, k, none⟩ u).ownsRow B el 1 (.slice (some ⟨B, 0, none⟩) len len) len (xs.set k u) ∧ ∀ j, j < k + 1 → (xs.set k u)[j]? = some (f j) := by
  refine ⟨(hown.stored k u).1, fun j hj => ?_⟩
  rw [List.getElem?_set]
  by_cases e : k = j
  · subst e
    have : k < xs.length := by rw [hown.1]; omega
    simp [this, hu]
  · rw [if_neg e]
    exact hf j (by omega)

theorem size_of_owns {wr : World} {B g n cap : Nat} {e : TypeId} {xs : List Value} (hown : wr.ownsRow B e 1 (.slice (some ⟨g, 0, none⟩) n cap) n xs) : g < wr.heap.size := by
  rcases hown.2 with ⟨h, _⟩ | ⟨g', cap', cur, h, _, hg, _⟩
  · simp at h
  · simp only [Value.slice.injEq, Option.some.injEq, Addr.mk.injEq, and_true, true_and] at h
    obtain ⟨rfl, _⟩ := h
    rcases Nat.lt_or_ge g wr.heap.size with h1 | h1
    · exact h1
    · rw [Array.getElem?_eq_none h1] at hg
      simp at hg

theorem clone8_nil (w : World) : Calls Try.prog 9 #[.slice none 0 0] w fun e w' => e = .returned (.slice none 0 0) ∧ w' = w := by
  have hq := fun w a n c => Lib.run_eql_slice_nil (P := Try.prog) w 22 5 a n c 0 0 Try.underlying22
  go_enter Try.func9, Try.ntmps9
  go_wp2
  go_ret
  exact ⟨rfl, rfl⟩

set_option maxHeartbeats 1000000 in
theorem clone8_any (x : Addr) (len cap : Nat) (zs : List Int) (w : World) (hlen : len ≤ 1000000000) (hx : len = 0 ∨ (x.spot = none ∧ x.block < w.heap.size))
    (hcell : ∀ i, i < len → w.cell? ⟨x.block, x.off + i, none⟩ = some (.int .u8 (zs.getD i 0))) :
    Calls Try.prog 9 #[.slice (some x) len cap] w fun e w' => e = .returned (.slice (some ⟨w.heap.size, 0, none⟩) len len) ∧
      (∀ i, i < len → w'.cell? ⟨w.heap.size, i, none⟩ = some (.int .u8 (zs.getD i 0))) ∧ w.heap.size < w'.heap.size ∧ Below w.heap.size w w' := by
  obtain ⟨i0, hi, hz0, hz1, hz2⟩ := info_parts Try.info5
  have hq := fun w a n c => Lib.run_eql_slice_nil (P := Try.prog) w 22 5 a n c 0 0 Try.underlying22
  go_enter Try.func9, Try.ntmps9
  go_wp2_with (at_make; refine wpList_make_full _ rfl _ _ 22 rfl w.heap.size 5 i0 (.int .u8 0) 1 Try.underlying22 hi hz0 hz1 _ _ _ _ len rfl rfl rfl rfl ?b2 ?b3 (Nat.le_refl _) ?_)
  case b2 => rw [hz2]; omega
  case b3 => unfold maxLen; omega
  intro w0 hown0 hgrow0
  go_wp2
  go_loopw [4] (fun si wr => ∃ (k : Nat) (xs : List Value), k ≤ len ∧ si = .int .i64 k ∧ wr.ownsRow w.heap.size 5 1 (.slice (some ⟨w.heap.size, 0, none⟩) len len) len xs ∧ (∀ j, j < k → xs[j]? = some (.int .u8 (zs.getD j 0))) ∧ w.heap.size < wr.heap.size ∧ Below w.heap.size w wr)
    (fun si _ => len - (intOf si).toNat)
  case atStart => exact ⟨0, _, Nat.zero_le _, rfl, hown0, fun j hj => by omega, size_of_owns hown0, (Below.refl _ _).grown hgrow0 (Nat.le_refl _) (fun k h => by cases h)⟩
  case round =>
    obtain ⟨k, xs, hk, rfl, hown, hxs, hsz, hnx⟩ := hrel
    clear hown0 hgrow0
    by_cases hlt : k < len
    · obtain ⟨hsp, hbl⟩ : x.spot = none ∧ x.block < w.heap.size := hx.resolve_left (by omega)
      obtain ⟨b, off, spot⟩ := x
      simp only at hsp hbl hcell
      subst hsp
      have hcx : wr.cell? ⟨b, off + k, none⟩ = some (.int .u8 (zs.getD k 0)) := (hnx.cell (by exact hbl)).trans (hcell k hlt)
      have hfz : wr.frozen? ⟨w.heap.size, k, none⟩ = false := hown.frozenAt k
      obtain ⟨v3, hv3⟩ : ∃ v3, wr.cell? ⟨w.heap.size, k, none⟩ = some v3 := by
        rw [hown.cellAt k (by omega)]
        exact ⟨_, List.getElem?_eq_getElem (by rw [hown.1]; omega)⟩
      have R := row_step hown hlt hxs rfl
      have hbs : Below w.heap.size w (wr.setCell ⟨w.heap.size, k, none⟩ (.int .u8 (zs.getD k 0))) := hnx.setCell (Nat.le_refl _) _
      clear hx hcell hown hxs hnx hq
      go_wp2
      go_roundw
      case rel => exact ⟨k + 1, _, by omega, by go_num, R.1, R.2, by simpa using hsz, hbs⟩
      case measure => simp [intOf]; omega
    · have hke : k = len := by omega
      subst hke
      go_wp2
      go_ret
      exact ⟨rfl, fun i h => by rw [hown.cellAt i (by omega)]; exact hxs i h, hsz, hnx⟩

theorem clone8_all (a : Option Addr) (len cap : Nat) (z : List Int) (w : World) (hlen : len ≤ 1000000000)
    (hx : a = none ∧ len = 0 ∧ cap = 0 ∨ ∃ x, a = some x ∧ len ≤ z.length ∧ (len = 0 ∨ (x.spot = none ∧ x.block < w.heap.size)) ∧ ∀ i, i < len → w.cell? ⟨x.block, x.off + i, none⟩ = some (.int .u8 (z.getD i 0))) :
    Calls Try.prog 9 #[.slice a len cap] w fun e w' => ∃ a1, e = .returned (.slice a1 len len) ∧ At .u8 w' a1 len (z.take len) ∧ Below w.heap.size w w' := by
  rcases hx with ⟨rfl, rfl, rfl⟩ | ⟨x, rfl, hl, hx, hc⟩
  · exact (clone8_nil w).mono fun e w' ⟨he, hw⟩ => ⟨none, he, ⟨by simp, .inl rfl⟩, by subst hw; exact Below.refl _ _⟩
  · have hg : ∀ i, i < len → (z.take len).getD i 0 = z.getD i 0 := fun i hi => by
      rw [List.getD_eq_getElem?_getD, List.getD_eq_getElem?_getD, List.getElem?_take, if_pos hi]
    refine (clone8_any x len cap z w hlen hx hc).mono fun e w' ⟨he, hc', hs, hb⟩ => ⟨_, he, ⟨by simp; omega, .inr ⟨_, _, rfl, hs, fun i hi => ?_⟩⟩, hb⟩
    rw [Nat.zero_add, hg i hi]
    exact hc' i hi

theorem clone32_nil (w : World) : Calls Try.prog 18 #[.slice none 0 0] w fun e w' => e = .returned (.slice none 0 0) ∧ w' = w := by
  have hq := fun w a n c => Lib.run_eql_slice_nil (P := Try.prog) w 27 28 a n c 0 0 Try.underlying27
  go_enter Try.func18, Try.ntmps18
  go_wp2
  go_ret
  exact ⟨rfl, rfl⟩

set_option maxHeartbeats 1000000 in
theorem clone32_any (x : Addr) (len cap : Nat) (zs : List Int) (w : World) (hlen : len ≤ 1000000000) (hx : len = 0 ∨ (x.spot = none ∧ x.block < w.heap.size))
    (hcell : ∀ i, i < len → w.cell? ⟨x.block, x.off + i, none⟩ = some (.int .u32 (zs.getD i 0))) :
    Calls Try.prog 18 #[.slice (some x) len cap] w fun e w' => e = .returned (.slice (some ⟨w.heap.size, 0, none⟩) len len) ∧
      (∀ i, i < len → w'.cell? ⟨w.heap.size, i, none⟩ = some (.int .u32 (zs.getD i 0))) ∧ w.heap.size < w'.heap.size ∧ Below w.heap.size w w' := by
  obtain ⟨i0, hi, hz0, hz1, hz2⟩ := info_parts Try.info28
  have hq := fun w a n c => Lib.run_eql_slice_nil (P := Try.prog) w 27 28 a n c 0 0 Try.underlying27
  go_enter Try.func18, Try.ntmps18
  go_wp2_with (at_make; refine wpList_make_full _ rfl _ _ 27 rfl w.heap.size 28 i0 (.int .u32 0) 1 Try.underlying27 hi hz0 hz1 _ _ _ _ len rfl rfl rfl rfl ?b2 ?b3 (Nat.le_refl _) ?_)
  case b2 => rw [hz2]; omega
  case b3 => unfold maxLen; omega
  intro w0 hown0 hgrow0
  go_wp2
  go_loopw [4] (fun si wr => ∃ (k : Nat) (xs : List Value), k ≤ len ∧ si = .int .i64 k ∧ wr.ownsRow w.heap.size 28 1 (.slice (some ⟨w.heap.size, 0, none⟩) len len) len xs ∧ (∀ j, j < k → xs[j]? = some (.int .u32 (zs.getD j 0))) ∧ w.heap.size < wr.heap.size ∧ Below w.heap.size w wr)
    (fun si _ => len - (intOf si).toNat)
  case atStart => exact ⟨0, _, Nat.zero_le _, rfl, hown0, fun j hj => by omega, size_of_owns hown0, (Below.refl _ _).grown hgrow0 (Nat.le_refl _) (fun k h => by cases h)⟩
  case round =>
    obtain ⟨k, xs, hk, rfl, hown, hxs, hsz, hnx⟩ := hrel
    clear hown0 hgrow0
    by_cases hlt : k < len
    · obtain ⟨hsp, hbl⟩ : x.spot = none ∧ x.block < w.heap.size := hx.resolve_left (by omega)
      obtain ⟨b, off, spot⟩ := x
      simp only at hsp hbl hcell
      subst hsp
      have hcx : wr.cell? ⟨b, off + k, none⟩ = some (.int .u32 (zs.getD k 0)) := (hnx.cell (by exact hbl)).trans (hcell k hlt)
      have hfz : wr.frozen? ⟨w.heap.size, k, none⟩ = false := hown.frozenAt k
      obtain ⟨v3, hv3⟩ : ∃ v3, wr.cell? ⟨w.heap.size, k, none⟩ = some v3 := by
        rw [hown.cellAt k (by omega)]
        exact ⟨_, List.getElem?_eq_getElem (by rw [hown.1]; omega)⟩
      have R := row_step hown hlt hxs rfl
      have hbs : Below w.heap.size w (wr.setCell ⟨w.heap.size, k, none⟩ (.int .u32 (zs.getD k 0))) := hnx.setCell (Nat.le_refl _) _
      clear hx hcell hown hxs hnx hq
      go_wp2
      go_roundw
      case rel => exact ⟨k + 1, _, by omega, by go_num, R.1, R.2, by simpa using hsz, hbs⟩
      case measure => simp [intOf]; omega
    · have hke : k = len := by omega
      subst hke
      go_wp2
      go_ret
      exact ⟨rfl, fun i h => by rw [hown.cellAt i (by omega)]; exact hxs i h, hsz, hnx⟩

theorem clone32_all (a : Option Addr) (len cap : Nat) (z : List Int) (w : World) (hlen : len ≤ 1000000000)
    (hx : a = none ∧ len = 0 ∧ cap = 0 ∨ ∃ x, a = some x ∧ len ≤ z.length ∧ (len = 0 ∨ (x.spot = none ∧ x.block < w.heap.size)) ∧ ∀ i, i < len → w.cell? ⟨x.block, x.off + i, none⟩ = some (.int .u32 (z.getD i 0))) :
    Calls Try.prog 18 #[.slice a len cap] w fun e w' => ∃ a1, e = .returned (.slice a1 len len) ∧ At .u32 w' a1 len (z.take len) ∧ Below w.heap.size w w' := by
  rcases hx with ⟨rfl, rfl, rfl⟩ | ⟨x, rfl, hl, hx, hc⟩
  · exact (clone32_nil w).mono fun e w' ⟨he, hw⟩ => ⟨none, he, ⟨by simp, .inl rfl⟩, by subst hw; exact Below.refl _ _⟩
  · have hg : ∀ i, i < len → (z.take len).getD i 0 = z.getD i 0 := fun i hi => by
      rw [List.getD_eq_getElem?_getD, List.getD_eq_getElem?_getD, List.getElem?_take, if_pos hi]
    refine (clone32_any x len cap z w hlen hx hc).mono fun e w' ⟨he, hc', hs, hb⟩ => ⟨_, he, ⟨by simp; omega, .inr ⟨_, _, rfl, hs, fun i hi => ?_⟩⟩, hb⟩
    rw [Nat.zero_add, hg i hi]
    exact hc' i hi

end Go.Proofs.Qxb6600037a
