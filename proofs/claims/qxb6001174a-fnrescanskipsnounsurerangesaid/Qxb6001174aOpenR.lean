/-
  A SLICE OF TRIPLES THAT CAME IN, OPENED.
-/
import Derived.Test.Qxb6001174aRanges
import Derived.ProofKit
import Derived.OpenShut
import Derived.Deep.Slices
namespace Go.Proofs.Qxb6001174a
open Go.ChangeShapes Go.WideShapes Go.ChangeAt Go.RowKit

theorem Try.cells35 : Try.prog.cellsOf 35 = 3 := by kernel_rfl
theorem Try.cells2 : Try.prog.cellsOf 2 = 1 := by kernel_rfl

theorem plain_of_cell {w : World} {x : Addr} {v : Value} (h : w.cell? x = some v) : x = ⟨x.block, x.off, none⟩ := by
  have := World.cell?_spot h
  obtain ⟨b, o, s⟩ := x
  simp only at this
  subst this
  rfl

theorem open_triples {H : Type} {enc : TypeId × Value → H} {W : World} {base : Nat} {held : Bool} {fuel : Nat} {a : Option Addr} {len cap : Nat} {x : DataW H × List MemPlace}
    (h : DataW.trod enc Try.prog W base (fun _ => true) held fuel 29 [.slice a len cap] = some x) :
    len ≤ maxLen ∧ (a = none → len = 0 ∧ cap = 0) ∧ ∃ F T X : Nat → Int, AtR W a len F T X := by
  rcases Deep.open_slice Try.underlying29 h with ⟨hcs, _⟩ | ⟨ad, l, c, m, n, D, Pl, hcs, _, hl, hm, hmm, _, hx⟩
  · simp at hcs
    obtain ⟨rfl, rfl, rfl⟩ := hcs
    exact ⟨Nat.zero_le _, fun _ => ⟨rfl, rfl⟩, fun _ => 0, fun _ => 0, fun _ => 0, .inl rfl⟩
  · simp at hcs
    obtain ⟨rfl, rfl, rfl⟩ := hcs
    refine ⟨by omega, (fun h => by simp at h), ?_⟩
    have hml : len ≤ m := by simp at hmm; omega
    by_cases h0 : len = 0
    · exact ⟨fun _ => 0, fun _ => 0, fun _ => 0, .inl h0⟩
    have key : ∀ i, i < len → ∃ t : Int × Int × Int, W.cell? (ad.add (i * 3)) = some (.int .i64 t.1) ∧ W.cell? ((ad.add (i * 3)).add 1) = some (.int .i64 t.2.1) ∧ W.cell? ((ad.add (i * 3)).add 2) = some (.int .i64 t.2.2) := by
      intro i hi
      obtain ⟨cs, hc, ht⟩ := hx i (by omega)
      rw [Try.cells35] at hc
      obtain ⟨_, hlen, hcell⟩ := World.cells?_some hc
      obtain ⟨xs, q, _, _, _, hxl, hel⟩ := DataW.trod_array Try.underlying35 ht
      match cs, hlen with
      | [c0, c1, c2], _ =>
        have e0 := hel 0 (by omega)
        have e1 := hel 1 (by omega)
        have e2 := hel 2 (by omega)
        rw [List.getElem?_eq_getElem (by omega)] at e0 e1 e2
        simp only [Try.cells2] at e0 e1 e2
        obtain ⟨z0, hz0, _⟩ := DataW.trod_int Try.underlying2 e0
        obtain ⟨z1, hz1, _⟩ := DataW.trod_int Try.underlying2 e1
        obtain ⟨z2, hz2, _⟩ := DataW.trod_int Try.underlying2 e2
        simp at hz0 hz1 hz2
        subst hz0 hz1 hz2
        refine ⟨(z0, z1, z2), ?_, ?_, ?_⟩
        · simpa [Addr.add] using hcell 0 (by omega)
        · simpa using hcell 1 (by omega)
        · simpa using hcell 2 (by omega)
    obtain ⟨f, hf⟩ := Deep.choose_lt key
    have hz := (hf 0 (by omega)).1
    have hp : ad = ⟨ad.block, ad.off, none⟩ := plain_of_cell (by simpa [Addr.add] using hz)
    refine ⟨fun i => (f i).1, fun i => (f i).2.1, fun i => (f i).2.2, .inr ⟨ad.block, ad.off, by rw [← hp], ?_, fun i hi => ?_⟩⟩
    · have := World.block_lt_of_cell? _ _ hz
      simpa [Addr.add] using this
    · obtain ⟨x, y, z⟩ := hf i hi
      rw [hp] at x y z
      simp only [add_plain] at x y z
      exact ⟨x, y, z⟩

end Go.Proofs.Qxb6001174a
