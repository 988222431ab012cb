/-
  THE PLAIN MATHEMATICS OF convergence: no Go in sight.
-/
import Derived.WalkKit
namespace Go.Proofs.Qxb6601336a.Cvg

/-- The digests of those among the first k nodes that ended with the run. -/
def mem (E S : Nat → Bool) (D : Nat → ByteArray) : Nat → List ByteArray
  | 0 => []
  | k + 1 => if (E k && !S k) = true then mem E S D k ++ [D k] else mem E S D k

theorem mem_yes {E S : Nat → Bool} {D : Nat → ByteArray} {k : Nat} (h : (E k && !S k) = true) : mem E S D (k + 1) = mem E S D k ++ [D k] := by
  simp only [mem]; rw [if_pos h]
theorem mem_no {E S : Nat → Bool} {D : Nat → ByteArray} {k : Nat} (h : (E k && !S k) = false) : mem E S D (k + 1) = mem E S D k := by
  simp only [mem]; rw [if_neg (by rw [h]; simp)]
theorem mem_length (E S : Nat → Bool) (D : Nat → ByteArray) (k : Nat) : (mem E S D k).length ≤ k := by
  induction k with
  | zero => simp [mem]
  | succ k ih =>
    simp only [mem]
    split
    · rw [List.length_append, List.length_singleton]; omega
    · omega
/-- What is a member early is a member late. -/
theorem mem_mono (E S : Nat → Bool) (D : Nat → ByteArray) (j k : Nat) (h : j ≤ k) (d : ByteArray) (hd : d ∈ mem E S D j) : d ∈ mem E S D k := by
  induction k with
  | zero => have : j = 0 := by omega
            subst this; exact hd
  | succ k ih =>
    by_cases e : j = k + 1
    · subst e; exact hd
    · have := ih (by omega)
      simp only [mem]
      split
      · exact List.mem_append_left _ this
      · exact this

def gone (d : ByteArray) : Bool := d.toList.isEmpty
def same (a b : ByteArray) : Bool := a.toList == b.toList

theorem same_refl (a : ByteArray) : same a a = true := by simp [same]
theorem same_symm {a b : ByteArray} (h : same a b = true) : same b a = true := by simp [same] at h ⊢; exact h.symm
theorem same_trans {a b c : ByteArray} (h : same a b = true) (k : same b c = true) : same a c = true := by simp [same] at h k ⊢; exact h.trans k

def first (ds : List ByteArray) : ByteArray := ds.headD ByteArray.empty
def allEq (ds : List ByteArray) : Bool := ds.all fun d => same d (first ds)
def anyGone (ds : List ByteArray) : Bool := ds.any gone

def na : ByteArray := ⟨#[110, 47, 97]⟩
def no : ByteArray := ⟨#[110, 111]⟩
def yes : ByteArray := ⟨#[121, 101, 115]⟩

/-- What 'convergence' answers. -/
def verdict (ds : List ByteArray) : ByteArray := if (ds.isEmpty || anyGone ds) = true then na else if allEq ds = true then yes else no

theorem anyGone_snoc (ds : List ByteArray) (d : ByteArray) : anyGone (ds ++ [d]) = (anyGone ds || gone d) := by simp [anyGone]
theorem first_snoc (ds : List ByteArray) (d : ByteArray) (h : ds ≠ []) : first (ds ++ [d]) = first ds := by
  cases ds with
  | nil => exact absurd rfl h
  | cons a t => rfl
theorem first_mem (ds : List ByteArray) (h : ds ≠ []) : first ds ∈ ds := by
  cases ds with
  | nil => exact absurd rfl h
  | cons a t => simp [first]
theorem allEq_iff (ds : List ByteArray) : allEq ds = true ↔ ∀ d ∈ ds, same d (first ds) = true := by simp [allEq]
theorem allEq_nil : allEq [] = true := rfl
theorem allEq_one (d : ByteArray) : allEq [d] = true := by rw [allEq_iff]; intro x hx; simp at hx; subst hx; exact same_refl _

/-- The next member equals the last one: nothing turns. -/
theorem allEq_keep {ds : List ByteArray} {l d : ByteArray} (hl : l ∈ ds) (h : same d l = true) : allEq (ds ++ [d]) = allEq ds := by
  have hne : ds ≠ [] := fun e => by subst e; cases hl
  rw [Bool.eq_iff_iff, allEq_iff, allEq_iff, first_snoc _ _ hne]
  constructor
  · intro k x hx; exact k x (List.mem_append_left _ hx)
  · intro k x hx
    rcases List.mem_append.1 hx with hx | hx
    · exact k x hx
    · simp at hx; subst hx; exact same_trans h (k l hl)
/-- It differs from the last one: they are not all equal. -/
theorem allEq_break {ds : List ByteArray} {l d : ByteArray} (hl : l ∈ ds) (h : same d l = false) : allEq (ds ++ [d]) = false := by
  cases hc : allEq (ds ++ [d])
  · rfl
  · rw [allEq_iff] at hc
    have a := hc l (List.mem_append_left _ hl)
    have b := hc d (by simp)
    rw [same_trans b (same_symm a)] at h
    cases h

theorem verdict_empty : verdict [] = na := rfl
theorem verdict_gone {ds : List ByteArray} (h : anyGone ds = true) : verdict ds = na := by unfold verdict; rw [h]; simp
theorem verdict_yes {ds : List ByteArray} (h0 : ds ≠ []) (h1 : anyGone ds = false) (h2 : allEq ds = true) : verdict ds = yes := by
  unfold verdict
  rw [if_neg (by rw [h1]; cases ds; exact absurd rfl h0; simp), if_pos h2]
theorem verdict_no {ds : List ByteArray} (h0 : ds ≠ []) (h1 : anyGone ds = false) (h2 : allEq ds = false) : verdict ds = no := by
  unfold verdict
  rw [if_neg (by rw [h1]; cases ds; exact absurd rfl h0; simp), if_neg (by rw [h2]; simp)]

theorem gone_size (d : ByteArray) : gone d = decide (d.size = 0) := by
  unfold gone
  rw [ByteArray.toList_eq]
  have : d.size = d.data.toList.length := by simp
  rw [this]
  cases d.data.toList <;> simp

end Go.Proofs.Qxb6601336a.Cvg
