/-
  THE PLAIN MATHEMATICS OF nestingDepth: no Go in sight.
-/
import Derived.WalkKit
namespace Go.Proofs.Qxb6001174a.Nest

/-- What 'nestingDepth' computes from here on: s: inside a string; k: the next byte is skipped; d: the depth; m: the deepest so far. -/
def nest : List Int → Bool → Bool → Int → Int → Int
  | [], _, _, _, m => m
  | _ :: cs, s, true, d, m => nest cs s false d m
  | c :: cs, true, false, d, m => if c = 92 then nest cs true true d m else if c = 34 then nest cs false false d m else nest cs true false d m
  | c :: cs, false, false, d, m =>
    if c = 34 then nest cs true false d m
    else if c = 91 ∨ c = 123 then nest cs false false (d + 1) (max m (d + 1))
    else if c = 93 ∨ c = 125 then nest cs false false (d - 1) m
    else nest cs false false d m

theorem nest_nil (s k : Bool) (d m : Int) : nest [] s k d m = m := by cases s <;> cases k <;> rfl
theorem nest_skip (c : Int) (cs : List Int) (s : Bool) (d m : Int) : nest (c :: cs) s true d m = nest cs s false d m := by cases s <;> rfl
theorem nest_in (c : Int) (cs : List Int) (d m : Int) :
    nest (c :: cs) true false d m = if c = 92 then nest cs true true d m else if c = 34 then nest cs false false d m else nest cs true false d m := rfl
theorem nest_out (c : Int) (cs : List Int) (d m : Int) :
    nest (c :: cs) false false d m = if c = 34 then nest cs true false d m
      else if c = 91 ∨ c = 123 then nest cs false false (d + 1) (max m (d + 1))
      else if c = 93 ∨ c = 125 then nest cs false false (d - 1) m
      else nest cs false false d m := rfl

/-- Skipping one byte is going on behind it. -/
theorem nest_skip_drop (zs : List Int) (k : Nat) (s : Bool) (d m : Int) : nest (zs.drop k) s true d m = nest (zs.drop (k + 1)) s false d m := by
  by_cases h : k < zs.length
  · rw [List.drop_eq_getElem_cons h, nest_skip]
  · rw [List.drop_eq_nil_of_le (by omega), List.drop_eq_nil_of_le (by omega), nest_nil, nest_nil]

theorem nest_wrap (c : Int) (hc : c = 93 ∨ c = 125) (zs : List Int) : ∀ (s k : Bool) (d m : Int), nest (zs ++ [c]) s k (d + 1) (m + 1) = nest zs s k d m + 1 := by
  induction zs with
  | nil =>
    intro s k d m
    cases k
    · cases s
      · rcases hc with rfl | rfl <;> simp [nest]
      · rcases hc with rfl | rfl <;> simp [nest]
    · simp [nest_skip, nest_nil]
  | cons a t ih =>
    intro s k d m
    rw [List.cons_append]
    cases k
    · cases s
      · rw [nest_out, nest_out]
        have e : max (m + 1) (d + 1 + 1) = max m (d + 1) + 1 := by omega
        have e2 : d + 1 - 1 = (d - 1) + 1 := by omega
        rw [e, e2]
        split
        · exact ih _ _ _ _
        · split
          · exact ih _ _ _ _
          · split <;> exact ih _ _ _ _
      · rw [nest_in, nest_in]
        split
        · exact ih _ _ _ _
        · split <;> exact ih _ _ _ _
    · rw [nest_skip, nest_skip]
      exact ih _ _ _ _

def depth (zs : List Int) : Int := nest zs false false 0 0

theorem depth_wrap (o c : Int) (ho : o = 91 ∨ o = 123) (hc : c = 93 ∨ c = 125) (zs : List Int) : depth (o :: (zs ++ [c])) = depth zs + 1 := by
  unfold depth
  rw [nest_out, if_neg (by omega), if_pos ho]
  exact nest_wrap c hc zs false false 0 0

/-- The text of a JSON string: quotes and backslashes escaped. -/
def esc : List Int → List Int
  | [] => []
  | c :: cs => if c = 34 ∨ c = 92 then 92 :: c :: esc cs else c :: esc cs

theorem esc_append (a b : List Int) : esc (a ++ b) = esc a ++ esc b := by
  induction a with
  | nil => rfl
  | cons c cs ih => simp only [List.cons_append, esc]; split <;> simp [ih]

theorem esc_length (a : List Int) : a.length ≤ (esc a).length ∧ (esc a).length ≤ 2 * a.length := by
  induction a with
  | nil => simp [esc]
  | cons c cs ih => simp only [esc]; split <;> simp <;> omega

theorem nest_esc (a t : List Int) (d m : Int) : nest (esc a ++ 34 :: t) true false d m = nest t false false d m := by
  induction a with
  | nil => simp [esc, nest_in]
  | cons c cs ih =>
    simp only [esc]
    split
    · simp only [List.cons_append]
      rw [nest_in, if_pos rfl, nest_skip, ih]
    · simp only [List.cons_append]
      rw [nest_in, if_neg (by omega), if_neg (by omega), ih]

def quote (a : List Int) : List Int := 34 :: (esc a ++ [34])

theorem nest_quote (a t : List Int) (d m : Int) : nest (quote a ++ t) false false d m = nest t false false d m := by
  unfold quote
  rw [List.cons_append, nest_out, if_pos rfl, List.append_assoc]
  exact nest_esc a t d m

theorem depth_quote (a : List Int) : depth (quote a) = 0 := by
  have := nest_quote a [] 0 0
  rw [List.append_nil] at this
  unfold depth
  rw [this, nest_nil]
theorem depth_quote_wrap (a : List Int) : depth (91 :: (quote a ++ [93])) = 1 := by
  rw [depth_wrap 91 93 (.inl rfl) (.inl rfl), depth_quote]; rfl
theorem depth_quote_two (a : List Int) : depth (quote a ++ [91, 91, 93, 93]) = 2 := by
  unfold depth
  rw [nest_quote]
  rfl

/-! ### The loop's steps: what one byte does, at place k -/
theorem drop_at (zs : List Int) (k : Nat) (h : k < zs.length) : zs.drop k = zs.getD k 0 :: zs.drop (k + 1) := by
  rw [List.drop_eq_getElem_cons h, List.getD_eq_getElem?_getD, List.getElem?_eq_getElem h]; rfl

theorem st_esc {zs : List Int} {k : Nat} {d m D : Int} (h : k < zs.length) (hc : zs.getD k 0 = 92) (hn : nest (zs.drop k) true false d m = D) : nest (zs.drop (k + 1 + 1)) true false d m = D := by
  rw [drop_at zs k h, nest_in, if_pos hc, nest_skip_drop] at hn
  exact hn
theorem st_close {zs : List Int} {k : Nat} {d m D : Int} (h : k < zs.length) (hc : zs.getD k 0 = 34) (hn : nest (zs.drop k) true false d m = D) : nest (zs.drop (k + 1)) false false d m = D := by
  rw [drop_at zs k h, nest_in, if_neg (by omega), if_pos hc] at hn
  exact hn
theorem st_in {zs : List Int} {k : Nat} {d m D : Int} (h : k < zs.length) (h1 : zs.getD k 0 ≠ 92) (h2 : zs.getD k 0 ≠ 34) (hn : nest (zs.drop k) true false d m = D) : nest (zs.drop (k + 1)) true false d m = D := by
  rw [drop_at zs k h, nest_in, if_neg h1, if_neg h2] at hn
  exact hn
theorem st_open {zs : List Int} {k : Nat} {d m D : Int} (h : k < zs.length) (hc : zs.getD k 0 = 34) (hn : nest (zs.drop k) false false d m = D) : nest (zs.drop (k + 1)) true false d m = D := by
  rw [drop_at zs k h, nest_out, if_pos hc] at hn
  exact hn
theorem st_up {zs : List Int} {k : Nat} {d m D : Int} (h : k < zs.length) (hc : zs.getD k 0 = 91 ∨ zs.getD k 0 = 123) (hn : nest (zs.drop k) false false d m = D) : nest (zs.drop (k + 1)) false false (d + 1) (max m (d + 1)) = D := by
  rw [drop_at zs k h, nest_out, if_neg (by omega), if_pos hc] at hn
  exact hn
theorem st_down {zs : List Int} {k : Nat} {d m D : Int} (h : k < zs.length) (hc : zs.getD k 0 = 93 ∨ zs.getD k 0 = 125) (hn : nest (zs.drop k) false false d m = D) : nest (zs.drop (k + 1)) false false (d - 1) m = D := by
  rw [drop_at zs k h, nest_out, if_neg (by omega), if_neg (by omega), if_pos hc] at hn
  exact hn
theorem st_other {zs : List Int} {k : Nat} {d m D : Int} (h : k < zs.length) (h1 : zs.getD k 0 ≠ 34) (h2 : ¬ (zs.getD k 0 = 91 ∨ zs.getD k 0 = 123)) (h3 : ¬ (zs.getD k 0 = 93 ∨ zs.getD k 0 = 125))
    (hn : nest (zs.drop k) false false d m = D) : nest (zs.drop (k + 1)) false false d m = D := by
  rw [drop_at zs k h, nest_out, if_neg h1, if_neg h2, if_neg h3] at hn
  exact hn

theorem nest_bounds (zs : List Int) : ∀ (s k : Bool) (d m : Int), m ≤ nest zs s k d m ∧ nest zs s k d m ≤ max m (d + zs.length) := by
  induction zs with
  | nil => intro s k d m; rw [nest_nil]; omega
  | cons c t ih =>
    intro s k d m
    rw [List.length_cons]
    cases k
    · cases s
      · rw [nest_out]
        split
        · have := ih true false d m; omega
        · split
          · have := ih false false (d + 1) (max m (d + 1)); omega
          · split
            · have := ih false false (d - 1) m; omega
            · have := ih false false d m; omega
      · rw [nest_in]
        split
        · have := ih true true d m; omega
        · split
          · have := ih false false d m; omega
          · have := ih true false d m; omega
    · rw [nest_skip]
      have := ih s false d m; omega
theorem depth_bounds (zs : List Int) : 0 ≤ depth zs ∧ depth zs ≤ zs.length := by
  have := nest_bounds zs false false 0 0
  unfold depth
  omega

end Go.Proofs.Qxb6001174a.Nest
