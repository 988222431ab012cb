/-
  SLICES OF BOOLS AND OF STRINGS THAT CAME IN, OPENED.
-/
import Derived.Test.Qxb6601336aCopies
import Derived.ProofKit
import Derived.OpenShut
import Derived.Deep.Slices
namespace Go.Proofs.Qxb6601336a
open Go.ChangeShapes Go.WideShapes Go.ChangeAt Go.RowKit

theorem Try.cells4 : Try.prog.cellsOf 4 = 1 := by kernel_rfl
theorem Try.cells9 : Try.prog.cellsOf 9 = 1 := by kernel_rfl

theorem plain_of_cell {w : World} {x : Addr} {v : Value} (h : w.cell? x = some v) : x = ⟨x.block, x.off, none⟩ := by
  have := World.cell?_spot h
  obtain ⟨b, o, s⟩ := x
  simp only at this
  subst this
  rfl

/-- From the cells at 'a.add i' to 'AtV'. -/
theorem atv_of {W : World} {ad : Addr} {len : Nat} {f : Nat → Value} (h : ∀ i, i < len → W.cell? (ad.add i) = some (f i)) : AtV W (some ad) len f := by
  by_cases h0 : len = 0
  · exact .inl h0
  have hz := h 0 (by omega)
  have hp : ad = ⟨ad.block, ad.off, none⟩ := plain_of_cell (by simpa [Addr.add] using hz)
  refine .inr ⟨ad.block, ad.off, by rw [← hp], ?_, fun i hi => ?_⟩
  · have := World.block_lt_of_cell? _ _ hz
    simpa [Addr.add] using this
  · have := h i hi
    rw [hp, add_plain] at this
    exact this

theorem open_bools {H : Type} {enc : TypeId × Value → H} {W : World} {base : Nat} {held : Bool} {fuel : Nat} {a : Option Addr} {len cap : Nat} {x : DataW H × List MemPlace}
    (h : DataW.trod enc Try.prog W base (fun _ => true) held fuel 22 [.slice a len cap] = some x) :
    len ≤ maxLen ∧ (a = none → len = 0 ∧ cap = 0) ∧ ∃ F : Nat → Bool, AtV W a len fun i => .bool (F i) := by
  rcases Deep.open_slice1 Try.underlying22 Try.cells4 h with ⟨hcs, _⟩ | ⟨ad, l, c, m, n, V, D, Pl, hcs, _, hl, hm, hmm, _, hx⟩
  · simp at hcs
    obtain ⟨rfl, rfl, rfl⟩ := hcs
    exact ⟨Nat.zero_le _, fun _ => ⟨rfl, rfl⟩, fun _ => false, .inl rfl⟩
  · simp at hcs
    obtain ⟨rfl, rfl, rfl⟩ := hcs
    have hml : len ≤ m := by simp at hmm; omega
    refine ⟨by omega, (fun h => by simp at h), ?_⟩
    have key : ∀ i, i < len → ∃ t : Bool, W.cell? (ad.add i) = some (.bool t) := fun i hi => by
      obtain ⟨hc, ht⟩ := hx i (by omega)
      obtain ⟨t, ht', _⟩ := DataW.trod_bool Try.underlying4 ht
      simp at ht'
      exact ⟨t, by rw [hc, ht']⟩
    obtain ⟨f, hf⟩ := Deep.choose_lt key
    exact ⟨f, atv_of hf⟩

theorem open_texts {H : Type} {enc : TypeId × Value → H} {W : World} {base : Nat} {held : Bool} {fuel : Nat} {a : Option Addr} {len cap : Nat} {x : DataW H × List MemPlace}
    (h : DataW.trod enc Try.prog W base (fun _ => true) held fuel 23 [.slice a len cap] = some x) :
    len ≤ maxLen ∧ (a = none → len = 0 ∧ cap = 0) ∧ ∃ F : Nat → ByteArray, (∀ i, i < len → (F i).size ≤ maxLen) ∧ AtV W a len fun i => .string (F i) := by
  rcases Deep.open_slice1 Try.underlying23 Try.cells9 h with ⟨hcs, _⟩ | ⟨ad, l, c, m, n, V, D, Pl, hcs, _, hl, hm, hmm, _, hx⟩
  · simp at hcs
    obtain ⟨rfl, rfl, rfl⟩ := hcs
    exact ⟨Nat.zero_le _, fun _ => ⟨rfl, rfl⟩, fun _ => ByteArray.empty, fun i hi => by omega, .inl rfl⟩
  · simp at hcs
    obtain ⟨rfl, rfl, rfl⟩ := hcs
    have hml : len ≤ m := by simp at hmm; omega
    refine ⟨by omega, (fun h => by simp at h), ?_⟩
    have key : ∀ i, i < len → ∃ t : ByteArray, t.size ≤ maxLen ∧ W.cell? (ad.add i) = some (.string t) := fun i hi => by
      obtain ⟨hc, ht⟩ := hx i (by omega)
      obtain ⟨t, ht', _, hs⟩ := DataW.trod_string Try.underlying9 ht
      simp at ht'
      exact ⟨t, hs, by rw [hc, ht']⟩
    obtain ⟨f, hf⟩ := Deep.choose_lt key
    exact ⟨f, fun i hi => (hf i hi).1, atv_of fun i hi => (hf i hi).2⟩

end Go.Proofs.Qxb6601336a
