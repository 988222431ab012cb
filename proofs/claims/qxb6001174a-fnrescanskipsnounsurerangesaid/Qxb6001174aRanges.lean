/-
  zzCloneRanges, WALKED: a new row of triples.
-/
import Derived.Test.Qxb6001174aRows
import Derived.WalkKit
import Derived.WalkSpells
import Derived.WalkLawsBesides
namespace Go.Proofs.Qxb6001174a
open Go.RowKit
theorem Try.info35 : (Try.prog.info? 35).map (fun i => (i.zero, i.size, i.bytes)) = some (some (.agg #[.int .i64 0, .int .i64 0, .int .i64 0]), 3, 24) := by kernel_rfl

/-- The first k triples of the flat list xs. -/
def Triples (F T X : Nat → Int) (k : Nat) (xs : List Value) : Prop :=
  ∀ i, i < k → xs[i * 3]? = some (.int .i64 (F i)) ∧ xs[i * 3 + 1]? = some (.int .i64 (T i)) ∧ xs[i * 3 + 2]? = some (.int .i64 (X i))

theorem set_other (xs : List Value) (p q : Nat) (u : Value) (h : p ≠ q) : (xs.set p u)[q]? = xs[q]? := by rw [List.getElem?_set, if_neg h]
theorem set_same (xs : List Value) (p : Nat) (u : Value) (h : p < xs.length) : (xs.set p u)[p]? = some u := by rw [List.getElem?_set]; simp [h]

theorem triples_step {F T X : Nat → Int} {k : Nat} {xs : List Value} (h : Triples F T X k xs) (hl : k * 3 + 2 < xs.length) :
    Triples F T X (k + 1) (((xs.set (k * 3) (.int .i64 (F k))).set (k * 3 + 1) (.int .i64 (T k))).set (k * 3 + 2) (.int .i64 (X k))) := by
  intro i hi
  by_cases e : i = k
  · subst e
    refine ⟨?_, ?_, ?_⟩
    · rw [set_other _ _ _ _ (by omega), set_other _ _ _ _ (by omega), set_same _ _ _ (by omega)]
    · rw [set_other _ _ _ _ (by omega), set_same _ _ _ (by simp; omega)]
    · rw [set_same _ _ _ (by simp; omega)]
  · obtain ⟨a, b, c⟩ := h i (by omega)
    refine ⟨?_, ?_, ?_⟩
    · rw [set_other _ _ _ _ (by omega), set_other _ _ _ _ (by omega), set_other _ _ _ _ (by omega), a]
    · rw [set_other _ _ _ _ (by omega), set_other _ _ _ _ (by omega), set_other _ _ _ _ (by omega), b]
    · rw [set_other _ _ _ _ (by omega), set_other _ _ _ _ (by omega), set_other _ _ _ _ (by omega), c]

theorem size_of_owns3 {wr : World} {B g n cap sz : Nat} {e : TypeId} {xs : List Value} (hown : wr.ownsRow B e sz (.slice (some ⟨g, 0, none⟩) n cap) n xs) : g < wr.heap.size := by
  rcases hown.2 with ⟨h, _⟩ | ⟨g', cap', cur, h, _, hg, _⟩
  · simp at h
  · simp only [Value.slice.injEq, Option.some.injEq, Addr.mk.injEq, and_true, true_and] at h
    obtain ⟨rfl, _⟩ := h
    rcases Nat.lt_or_ge g wr.heap.size with h1 | h1
    · exact h1
    · rw [Array.getElem?_eq_none h1] at hg
      simp at hg

/-- The slice (a, len) holds the triples F, T, X in w: it is empty, or it leads to a row of them. -/
def AtR (w : World) (a : Option Addr) (len : Nat) (F T X : Nat → Int) : Prop :=
  len = 0 ∨ ∃ b off, a = some ⟨b, off, none⟩ ∧ b < w.heap.size ∧ ∀ i, i < len → w.cell? ⟨b, off + i * 3, none⟩ = some (.int .i64 (F i)) ∧
    w.cell? ⟨b, off + i * 3 + 1, none⟩ = some (.int .i64 (T i)) ∧ w.cell? ⟨b, off + i * 3 + 2, none⟩ = some (.int .i64 (X i))

theorem AtR.later {w w' : World} {a : Option Addr} {len : Nat} {F T X : Nat → Int} (h : AtR w a len F T X) (hb : Below w.heap.size w w') : AtR w' a len F T X := by
  rcases h with h | ⟨b, off, e, hlt, hc⟩
  · exact .inl h
  · refine .inr ⟨b, off, e, Nat.lt_of_lt_of_le hlt hb.size, fun i hi => ?_⟩
    obtain ⟨x, y, z⟩ := hc i hi
    exact ⟨(hb.cell (p := ⟨b, _, none⟩) hlt).trans x, (hb.cell (p := ⟨b, _, none⟩) hlt).trans y, (hb.cell (p := ⟨b, _, none⟩) hlt).trans z⟩

theorem cloneR_nil (w : World) : Calls Try.prog 19 #[.slice none 0 0] w fun e w' => e = .returned (.slice none 0 0) ∧ w' = w := by
  have hq := fun w a n c => Lib.run_eql_slice_nil (P := Try.prog) w 29 35 a n c 0 0 Try.underlying29
  go_enter Try.func19, Try.ntmps19
  go_wp2
  go_ret
  exact ⟨rfl, rfl⟩

set_option maxHeartbeats 1000000 in
theorem cloneR_any (x : Addr) (len cap : Nat) (F T X : Nat → Int) (w : World) (hlen : len ≤ 1000000000) (hx : AtR w (some x) len F T X) :
    Calls Try.prog 19 #[.slice (some x) len cap] w fun e w' => e = .returned (.slice (some ⟨w.heap.size, 0, none⟩) len len) ∧
      AtR w' (some ⟨w.heap.size, 0, none⟩) len F T X ∧ Below w.heap.size w w' := by
  obtain ⟨i0, hi, hz0, hz1, hz2⟩ := info_parts Try.info35
  have hq := fun w a n c => Lib.run_eql_slice_nil (P := Try.prog) w 29 35 a n c 0 0 Try.underlying29
  go_enter Try.func19, Try.ntmps19
  go_wp2_with (at_make; refine wpList_make_full _ rfl _ _ 29 rfl w.heap.size 35 i0 (.agg #[.int .i64 0, .int .i64 0, .int .i64 0]) 3 Try.underlying29 hi hz0 hz1 _ _ _ _ len rfl rfl rfl rfl ?b2 ?b3 (Nat.le_refl _) ?_)
  case b2 => rw [hz2]; omega
  case b3 => unfold maxLen; omega
  intro w0 hown0 hgrow0
  go_wp2
  go_loopw [4] (fun si wr => ∃ (k : Nat) (xs : List Value), k ≤ len ∧ si = .int .i64 k ∧ wr.ownsRow w.heap.size 35 3 (.slice (some ⟨w.heap.size, 0, none⟩) len len) len xs ∧ Triples F T X k xs ∧ Below w.heap.size w wr)
    (fun si _ => len - (intOf si).toNat)
  case atStart => exact ⟨0, _, Nat.zero_le _, rfl, hown0, fun j hj => by omega, (Below.refl _ _).grown hgrow0 (Nat.le_refl _) (fun k h => by cases h)⟩
  case round =>
    obtain ⟨k, xs, hk, rfl, hown, hxs, hnx⟩ := hrel
    clear hown0 hgrow0
    by_cases hlt : k < len
    · obtain ⟨b, off, e, hbl, hc⟩ := hx.resolve_left (by omega)
      obtain rfl := Option.some.inj e
      have c0 : wr.cell? ⟨b, off + k * 3, none⟩ = some (.int .i64 (F k)) := (hnx.cell (by exact hbl)).trans (hc k hlt).1
      have c1 : wr.cell? ⟨b, off + k * 3 + 1, none⟩ = some (.int .i64 (T k)) := (hnx.cell (by exact hbl)).trans (hc k hlt).2.1
      have c2 : wr.cell? ⟨b, off + k * 3 + 2, none⟩ = some (.int .i64 (X k)) := (hnx.cell (by exact hbl)).trans (hc k hlt).2.2
      have f0 : wr.frozen? ⟨w.heap.size, k * 3, none⟩ = false := hown.frozenAt _
      have f1 : wr.frozen? ⟨w.heap.size, k * 3 + 1, none⟩ = false := hown.frozenAt _
      have f2 : wr.frozen? ⟨w.heap.size, k * 3 + 2, none⟩ = false := hown.frozenAt _
      have hl : xs.length = len * 3 := hown.1
      obtain ⟨v0, g0⟩ : ∃ v, wr.cell? ⟨w.heap.size, k * 3, none⟩ = some v := by
        rw [hown.cellAt _ (by omega)]; exact ⟨_, List.getElem?_eq_getElem (by omega)⟩
      obtain ⟨v1, g1⟩ : ∃ v, wr.cell? ⟨w.heap.size, k * 3 + 1, none⟩ = some v := by
        rw [hown.cellAt _ (by omega)]; exact ⟨_, List.getElem?_eq_getElem (by omega)⟩
      obtain ⟨v2, g2⟩ : ∃ v, wr.cell? ⟨w.heap.size, k * 3 + 2, none⟩ = some v := by
        rw [hown.cellAt _ (by omega)]; exact ⟨_, List.getElem?_eq_getElem (by omega)⟩
      have R := triples_step hxs (by omega)
      have O := ((((hown.stored (k * 3) (.int .i64 (F k))).1.stored (k * 3 + 1) (.int .i64 (T k))).1).stored (k * 3 + 2) (.int .i64 (X k))).1
      have hbs := ((hnx.setCell (p := ⟨w.heap.size, k * 3, none⟩) (Nat.le_refl _) (.int .i64 (F k))).setCell (p := ⟨w.heap.size, k * 3 + 1, none⟩) (Nat.le_refl _) (.int .i64 (T k))).setCell (p := ⟨w.heap.size, k * 3 + 2, none⟩) (Nat.le_refl _) (.int .i64 (X k))
      clear hx hc hown hxs hnx hq hl
      go_wp2
      go_roundw
      case rel => exact ⟨k + 1, _, by omega, by go_num, O, R, hbs⟩
      case measure => simp [intOf]; omega
    · have hke : k = len := by omega
      subst hke
      go_wp2
      go_ret
      refine ⟨rfl, .inr ⟨_, _, rfl, size_of_owns3 hown, fun i h => ?_⟩, hnx⟩
      obtain ⟨x, y, z⟩ := hxs i h
      rw [Nat.zero_add]
      exact ⟨(hown.cellAt _ (by omega)).trans x, (hown.cellAt _ (by omega)).trans y, (hown.cellAt _ (by omega)).trans z⟩

end Go.Proofs.Qxb6001174a
