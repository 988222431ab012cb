/-
  THE CONTRACTS OF ZZNestingDepth, zzCloneBytes AND zzWrap IN ONE FORM: a slice of bytes that holds 'zs'.
-/
import Derived.Test.Qxb6001174aDepth
import Derived.Test.Qxb6001174aWrap
namespace Go.Proofs.Qxb6001174a
open Go.RowKit Nest

/-- The slice (a, len) holds the bytes zs in w: it is empty, or it leads to a row of them. -/
def At (w : World) (a : Option Addr) (len : Nat) (zs : List Int) : Prop :=
  zs.length = len ∧ (len = 0 ∨ ∃ b off, a = some ⟨b, off, none⟩ ∧ b < w.heap.size ∧ ∀ i, i < len → w.cell? ⟨b, off + i, none⟩ = some (.int .u8 (zs.getD i 0)))

theorem At.later {w w' : World} {a : Option Addr} {len : Nat} {zs : List Int} (h : At w a len zs) (hb : Below w.heap.size w w') : At w' a len zs := by
  obtain ⟨hl, h⟩ := h
  refine ⟨hl, ?_⟩
  rcases h with h | ⟨b, off, e, hlt, hc⟩
  · exact .inl h
  · exact .inr ⟨b, off, e, Nat.lt_of_lt_of_le hlt hb.size, fun i hi => (hb.cell (p := ⟨b, off + i, none⟩) hlt).trans (hc i hi)⟩

theorem depth_all (a : Option Addr) (len cap : Nat) (zs : List Int) (w : World) (h : At w a len zs) (hlen : len ≤ 1000000000) :
    Calls Try.prog 13 #[.slice a len cap] w fun e w' => e = .returned (.int .i64 (depth zs)) ∧ w' = w := by
  obtain ⟨hl, h⟩ := h
  rcases h with h | ⟨b, off, e, _, hc⟩
  · subst h
    have : zs = [] := List.eq_nil_of_length_eq_zero hl
    subst this
    exact zzdepth_zero a cap w
  · subst e
    exact zzdepth_any b off len cap zs w hl hlen hc

theorem wrap_all (o c : Int) (a : Option Addr) (len cap : Nat) (zs : List Int) (w : World) (h : At w a len zs) (hlen : len ≤ 1000000000) :
    Calls Try.prog 14 #[.int .u8 o, .int .u8 c, .slice a len cap] w fun e w' => e = .returned (.slice (some ⟨w.heap.size, 0, none⟩) (len + 2) (len + 2)) ∧
      At w' (some ⟨w.heap.size, 0, none⟩) (len + 2) (o :: (zs ++ [c])) ∧ Below w.heap.size w w' := by
  refine (wrap_any o c a len cap zs w h.1 hlen h.2).mono fun e w' ⟨he, hc, hs, hb⟩ => ⟨he, ⟨by simp [h.1], .inr ⟨_, _, rfl, hs, fun i hi => ?_⟩⟩, hb⟩
  rw [Nat.zero_add]
  exact hc i hi

theorem clone_all (a : Option Addr) (len cap : Nat) (z : List Int) (w : World) (hlen : len ≤ 1000000000)
    (hx : a = none ∧ len = 0 ∧ cap = 0 ∨ ∃ x, a = some x ∧ len ≤ z.length ∧ (len = 0 ∨ (x.spot = none ∧ x.block < w.heap.size)) ∧ ∀ i, i < len → w.cell? ⟨x.block, x.off + i, none⟩ = some (.int .u8 (z.getD i 0))) :
    Calls Try.prog 12 #[.slice a len cap] w fun e w' => ∃ a1 cap1, e = .returned (.slice a1 len cap1) ∧ At w' a1 len (z.take len) ∧ Below w.heap.size w w' := by
  rcases hx with ⟨rfl, rfl, rfl⟩ | ⟨x, rfl, hl, hx, hc⟩
  · exact (clone_nil w).mono fun e w' ⟨he, hw⟩ => ⟨none, 0, he, ⟨by simp, .inl rfl⟩, by subst hw; exact Below.refl _ _⟩
  · have hg : ∀ i, i < len → (z.take len).getD i 0 = z.getD i 0 := fun i hi => by
      rw [List.getD_eq_getElem?_getD, List.getD_eq_getElem?_getD, List.getElem?_take, if_pos hi]
    refine (clone_any x len cap z w hlen hx hc).mono fun e w' ⟨he, hc', hs, hb⟩ => ⟨_, _, he, ⟨by simp; omega, .inr ⟨_, _, rfl, hs, fun i hi => ?_⟩⟩, hb⟩
    rw [Nat.zero_add, hg i hi]
    exact hc' i hi

end Go.Proofs.Qxb6001174a
