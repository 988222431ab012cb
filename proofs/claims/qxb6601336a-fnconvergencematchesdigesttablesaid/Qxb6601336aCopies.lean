/-
  ROWS; zzCopyBools, zzCopyStrings, WALKED.
-/
import Derived.Test.Qxb6601336aRows
import Derived.WalkKit
import Derived.WalkSpells
import Derived.WalkLawsBesides
namespace Go.Proofs.Qxb6601336a
open Go.RowKit

theorem Try.info4 : (Try.prog.info? 4).map (fun i => (i.zero, i.size, i.bytes)) = some (some (.bool false), 1, 1) := by kernel_rfl
theorem Try.info9 : (Try.prog.info? 9).map (fun i => (i.zero, i.size, i.bytes)) = some (some (.string ⟨#[]⟩), 1, 16) := by kernel_rfl
theorem Try.info54 : (Try.prog.info? 54).map (fun i => (i.zero, i.size, i.bytes)) = some (some (.pointer none), 1, 8) := by kernel_rfl

/-- The slice (a, len) holds the values f in w: it is empty, or it leads to a row of them. -/
def AtV (w : World) (a : Option Addr) (len : Nat) (f : Nat → Value) : Prop :=
  len = 0 ∨ ∃ b off, a = some ⟨b, off, none⟩ ∧ b < w.heap.size ∧ ∀ i, i < len → w.cell? ⟨b, off + i, none⟩ = some (f i)

theorem AtV.later {w w' : World} {a : Option Addr} {len : Nat} {f : Nat → Value} (h : AtV w a len f) (hb : Below w.heap.size w w') : AtV w' a len f := by
  rcases h with h | ⟨b, off, e, hlt, hc⟩
  · exact .inl h
  · exact .inr ⟨b, off, e, Nat.lt_of_lt_of_le hlt hb.size, fun i hi => (hb.cell (p := ⟨b, off + i, none⟩) hlt).trans (hc i hi)⟩

/-- What is stored at place k of an owned row. -/
theorem row_step {wr : World} {B g len k : Nat} {el : TypeId} {xs : List Value} {u : Value} {f : Nat → Value}
    (hown : wr.ownsRow B el 1 (.slice (some ⟨g, 0, none⟩) len len) len xs) (hk : k < len) (hf : ∀ j, j < k → xs[j]? = some (f j)) (hu : u = f k) :
    (wr.setCell ⟨g, k, none⟩ u).ownsRow B el 1 (.slice (some ⟨g, 0, none⟩) len len) len (xs.set k u) ∧ ∀ j, j < k + 1 → (xs.set k u)[j]? = some (f j) := by
  refine ⟨(hown.stored k u).1, fun j hj => ?_⟩
  rw [List.getElem?_set]
  by_cases e : k = j
  · subst e
    have : k < xs.length := by rw [hown.1]; omega
    simp [this, hu]
  · rw [if_neg e]
    exact hf j (by omega)

theorem size_of_owns {wr : World} {B g n cap : Nat} {e : TypeId} {xs : List Value} (hown : wr.ownsRow B e 1 (.slice (some ⟨g, 0, none⟩) n cap) n xs) : g < wr.heap.size := by
  rcases hown.2 with ⟨h, _⟩ | ⟨g', cap', cur, h, _, hg, _⟩
  · simp at h
  · simp only [Value.slice.injEq, Option.some.injEq, Addr.mk.injEq, and_true, true_and] at h
    obtain ⟨rfl, _⟩ := h
    rcases Nat.lt_or_ge g wr.heap.size with h1 | h1
    · exact h1
    · rw [Array.getElem?_eq_none h1] at hg
      simp at hg

theorem copyB_nil (w : World) : Calls Try.prog 8 #[.slice none 0 0] w fun e w' => e = .returned (.slice none 0 0) ∧ w' = w := by
  have hq := fun w a n c => Lib.run_eql_slice_nil (P := Try.prog) w 22 4 a n c 0 0 Try.underlying22
  go_enter Try.func8, Try.ntmps8
  go_wp2
  go_ret
  exact ⟨rfl, rfl⟩

set_option maxHeartbeats 1000000 in
theorem copyB_any (x : Addr) (len cap : Nat) (F : Nat → Bool) (w : World) (hlen : len ≤ 1000000000) (hx : AtV w (some x) len fun i => .bool (F i)) :
    Calls Try.prog 8 #[.slice (some x) len cap] w fun e w' => e = .returned (.slice (some ⟨w.heap.size, 0, none⟩) len len) ∧
      AtV w' (some ⟨w.heap.size, 0, none⟩) len (fun i => .bool (F i)) ∧ Below w.heap.size w w' := by
  obtain ⟨i0, hi, hz0, hz1, hz2⟩ := info_parts Try.info4
  have hq := fun w a n c => Lib.run_eql_slice_nil (P := Try.prog) w 22 4 a n c 0 0 Try.underlying22
  go_enter Try.func8, Try.ntmps8
  go_wp2_with (at_make; refine wpList_make_full _ rfl _ _ 22 rfl w.heap.size 4 i0 (.bool false) 1 Try.underlying22 hi hz0 hz1 _ _ _ _ len rfl rfl rfl rfl ?b2 ?b3 (Nat.le_refl _) ?_)
  case b2 => rw [hz2]; omega
  case b3 => unfold maxLen; omega
  intro w0 hown0 hgrow0
  go_wp2
  go_loopw [4] (fun si wr => ∃ (k : Nat) (xs : List Value), k ≤ len ∧ si = .int .i64 k ∧ wr.ownsRow w.heap.size 4 1 (.slice (some ⟨w.heap.size, 0, none⟩) len len) len xs ∧ (∀ j, j < k → xs[j]? = some (.bool (F j))) ∧ Below w.heap.size w wr)
    (fun si _ => len - (intOf si).toNat)
  case atStart => exact ⟨0, _, Nat.zero_le _, rfl, hown0, fun j hj => by omega, (Below.refl _ _).grown hgrow0 (Nat.le_refl _) (fun k h => by cases h)⟩
  case round =>
    obtain ⟨k, xs, hk, rfl, hown, hxs, hnx⟩ := hrel
    clear hown0 hgrow0
    by_cases hlt : k < len
    · obtain ⟨b, off, e, hbl, hc⟩ := hx.resolve_left (by omega)
      obtain rfl := Option.some.inj e
      have hcx : wr.cell? ⟨b, off + k, none⟩ = some (.bool (F k)) := (hnx.cell (by exact hbl)).trans (hc k hlt)
      have hfz : wr.frozen? ⟨w.heap.size, k, none⟩ = false := hown.frozenAt k
      obtain ⟨v3, hv3⟩ : ∃ v3, wr.cell? ⟨w.heap.size, k, none⟩ = some v3 := by
        rw [hown.cellAt k (by omega)]
        exact ⟨_, List.getElem?_eq_getElem (by rw [hown.1]; omega)⟩
      have R := row_step hown hlt hxs rfl
      have hbs : Below w.heap.size w (wr.setCell ⟨w.heap.size, k, none⟩ (.bool (F k))) := hnx.setCell (Nat.le_refl _) _
      clear hx hc hown hxs hnx hq
      go_wp2
      go_roundw
      case rel => exact ⟨k + 1, _, by omega, by go_num, R.1, R.2, hbs⟩
      case measure => simp [intOf]; omega
    · have hke : k = len := by omega
      subst hke
      go_wp2
      go_ret
      exact ⟨rfl, .inr ⟨_, _, rfl, size_of_owns hown, fun i h => by rw [Nat.zero_add, hown.cellAt i (by omega)]; exact hxs i h⟩, hnx⟩

theorem copyB_all (a : Option Addr) (len cap : Nat) (F : Nat → Bool) (w : World) (hlen : len ≤ 1000000000) (hn : a = none → len = 0 ∧ cap = 0) (hx : AtV w a len fun i => .bool (F i)) :
    Calls Try.prog 8 #[.slice a len cap] w fun e w' => ∃ a1, e = .returned (.slice a1 len len) ∧ AtV w' a1 len (fun i => .bool (F i)) ∧ Below w.heap.size w w' := by
  cases a with
  | none =>
    obtain ⟨rfl, rfl⟩ := hn rfl
    exact (copyB_nil w).mono fun e w' ⟨he, hw⟩ => ⟨none, he, .inl rfl, by subst hw; exact Below.refl _ _⟩
  | some x => exact (copyB_any x len cap F w hlen hx).mono fun e w' ⟨he, h1, h2⟩ => ⟨_, he, h1, h2⟩

theorem copyS_nil (w : World) : Calls Try.prog 9 #[.slice none 0 0] w fun e w' => e = .returned (.slice none 0 0) ∧ w' = w := by
  have hq := fun w a n c => Lib.run_eql_slice_nil (P := Try.prog) w 23 9 a n c 0 0 Try.underlying23
  go_enter Try.func9, Try.ntmps9
  go_wp2
  go_ret
  exact ⟨rfl, rfl⟩

set_option maxHeartbeats 1000000 in
theorem copyS_any (x : Addr) (len cap : Nat) (F : Nat → ByteArray) (w : World) (hlen : len ≤ 1000000000) (hx : AtV w (some x) len fun i => .string (F i)) :
    Calls Try.prog 9 #[.slice (some x) len cap] w fun e w' => e = .returned (.slice (some ⟨w.heap.size, 0, none⟩) len len) ∧
      AtV w' (some ⟨w.heap.size, 0, none⟩) len (fun i => .string (F i)) ∧ Below w.heap.size w w' := by
  obtain ⟨i0, hi, hz0, hz1, hz2⟩ := info_parts Try.info9
  have hq := fun w a n c => Lib.run_eql_slice_nil (P := Try.prog) w 23 9 a n c 0 0 Try.underlying23
  go_enter Try.func9, Try.ntmps9
  go_wp2_with (at_make; refine wpList_make_full _ rfl _ _ 23 rfl w.heap.size 9 i0 (.string ⟨#[]⟩) 1 Try.underlying23 hi hz0 hz1 _ _ _ _ len rfl rfl rfl rfl ?b2 ?b3 (Nat.le_refl _) ?_)
  case b2 => rw [hz2]; omega
  case b3 => unfold maxLen; omega
  intro w0 hown0 hgrow0
  go_wp2
  go_loopw [4] (fun si wr => ∃ (k : Nat) (xs : List Value), k ≤ len ∧ si = .int .i64 k ∧ wr.ownsRow w.heap.size 9 1 (.slice (some ⟨w.heap.size, 0, none⟩) len len) len xs ∧ (∀ j, j < k → xs[j]? = some (.string (F j))) ∧ Below w.heap.size w wr)
    (fun si _ => len - (intOf si).toNat)
  case atStart => exact ⟨0, _, Nat.zero_le _, rfl, hown0, fun j hj => by omega, (Below.refl _ _).grown hgrow0 (Nat.le_refl _) (fun k h => by cases h)⟩
  case round =>
    obtain ⟨k, xs, hk, rfl, hown, hxs, hnx⟩ := hrel
    clear hown0 hgrow0
    by_cases hlt : k < len
    · obtain ⟨b, off, e, hbl, hc⟩ := hx.resolve_left (by omega)
      obtain rfl := Option.some.inj e
      have hcx : wr.cell? ⟨b, off + k, none⟩ = some (.string (F k)) := (hnx.cell (by exact hbl)).trans (hc k hlt)
      have hfz : wr.frozen? ⟨w.heap.size, k, none⟩ = false := hown.frozenAt k
      obtain ⟨v3, hv3⟩ : ∃ v3, wr.cell? ⟨w.heap.size, k, none⟩ = some v3 := by
        rw [hown.cellAt k (by omega)]
        exact ⟨_, List.getElem?_eq_getElem (by rw [hown.1]; omega)⟩
      have R := row_step hown hlt hxs rfl
      have hbs : Below w.heap.size w (wr.setCell ⟨w.heap.size, k, none⟩ (.string (F k))) := hnx.setCell (Nat.le_refl _) _
      clear hx hc hown hxs hnx hq
      go_wp2
      go_roundw
      case rel => exact ⟨k + 1, _, by omega, by go_num, R.1, R.2, hbs⟩
      case measure => simp [intOf]; omega
    · have hke : k = len := by omega
      subst hke
      go_wp2
      go_ret
      exact ⟨rfl, .inr ⟨_, _, rfl, size_of_owns hown, fun i h => by rw [Nat.zero_add, hown.cellAt i (by omega)]; exact hxs i h⟩, hnx⟩

theorem copyS_all (a : Option Addr) (len cap : Nat) (F : Nat → ByteArray) (w : World) (hlen : len ≤ 1000000000) (hn : a = none → len = 0 ∧ cap = 0) (hx : AtV w a len fun i => .string (F i)) :
    Calls Try.prog 9 #[.slice a len cap] w fun e w' => ∃ a1, e = .returned (.slice a1 len len) ∧ AtV w' a1 len (fun i => .string (F i)) ∧ Below w.heap.size w w' := by
  cases a with
  | none =>
    obtain ⟨rfl, rfl⟩ := hn rfl
    exact (copyS_nil w).mono fun e w' ⟨he, hw⟩ => ⟨none, he, .inl rfl, by subst hw; exact Below.refl _ _⟩
  | some x => exact (copyS_any x len cap F w hlen hx).mono fun e w' ⟨he, h1, h2⟩ => ⟨_, he, h1, h2⟩

end Go.Proofs.Qxb6601336a
