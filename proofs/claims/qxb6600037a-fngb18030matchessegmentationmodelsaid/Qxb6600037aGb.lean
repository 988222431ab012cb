/-
  THE PLAIN MATHEMATICS OF isGB18030: no Go in sight.
-/
import Derived.WalkKit
namespace Go.Proofs.Qxb6600037a.Gb

def lead (b : Int) : Bool := decide (129 ≤ b ∧ b ≤ 254)
def digit (b : Int) : Bool := decide (48 ≤ b ∧ b ≤ 57)
def trail (b : Int) : Bool := decide ((64 ≤ b ∧ b ≤ 126) ∨ (128 ≤ b ∧ b ≤ 254))

/-- What 'isGB18030' answers. -/
def gb : List Int → Bool
  | [] => true
  | [a] => decide (a < 128)
  | [a, b] => if a < 128 then gb [b] else lead a && trail b
  | [a, b, c] => if a < 128 then gb [b, c] else if lead a && trail b then gb [c] else false
  | a :: b :: c :: d :: t =>
    if a < 128 then gb (b :: c :: d :: t)
    else if lead a && trail b then gb (c :: d :: t)
    else if lead a && digit b && lead c && digit d then gb t
    else false

theorem gb_one (a : Int) (t : List Int) (h : a < 128) : gb (a :: t) = gb t := by
  match t with
  | [] => simp [gb, h]
  | [_] => simp [gb, h]
  | [_, _] => simp [gb, h]
  | _ :: _ :: _ :: _ => simp [gb, h]

theorem gb_two (a b : Int) (t : List Int) (h : lead a = true) (h2 : trail b = true) : gb (a :: b :: t) = gb t := by
  have ha : ¬ a < 128 := by simp [lead] at h; omega
  match t with
  | [] => simp [gb, ha, h, h2]
  | [_] => simp [gb, ha, h, h2]
  | _ :: _ :: _ => simp [gb, ha, h, h2]

theorem trail_of_digit (b : Int) (h : digit b = true) : trail b = false := by
  simp [digit] at h; simp [trail]; omega

theorem gb_four (a b c d : Int) (t : List Int) (h : lead a = true) (h2 : digit b = true) (h3 : lead c = true) (h4 : digit d = true) : gb (a :: b :: c :: d :: t) = gb t := by
  have ha : ¬ a < 128 := by simp [lead] at h; omega
  have hb := trail_of_digit b h2
  simp [gb, ha, h, h2, h3, h4, hb]

/-- No form fits: refused. -/
theorem gb_none1 (a : Int) (h : ¬ a < 128) : gb [a] = false := by simp [gb]; omega
theorem gb_noLead (a : Int) (t : List Int) (h : ¬ a < 128) (h2 : lead a = false) : gb (a :: t) = false := by
  match t with
  | [] => simp [gb]; omega
  | [_] => simp [gb, h, h2]
  | [_, _] => simp [gb, h, h2]
  | _ :: _ :: _ :: _ => simp [gb, h, h2]
theorem gb_short2 (a b : Int) (h : ¬ a < 128) (h2 : trail b = false) : gb [a, b] = false := by simp [gb, h, h2]
theorem gb_short3 (a b c : Int) (h : ¬ a < 128) (h2 : trail b = false) : gb [a, b, c] = false := by simp [gb, h, h2]
theorem gb_none4 (a b c d : Int) (t : List Int) (h : ¬ a < 128) (h2 : trail b = false) (h3 : (lead a && digit b && lead c && digit d) = false) : gb (a :: b :: c :: d :: t) = false := by
  rw [gb, if_neg h, if_neg (by simp [h2]), if_neg (by rw [h3]; simp)]

theorem gb_digits (zs : List Int) (h : ∀ z ∈ zs, 48 ≤ z ∧ z ≤ 57) : gb zs = true := by
  induction zs with
  | nil => rfl
  | cons a t ih =>
    rw [gb_one a t (by have := h a (by simp); omega)]
    exact ih fun z hz => h z (by simp [hz])

/-! ### The segmentation model -/
/-- One round at place i of the forward reachability. -/
def segAt (zs : List Int) (i : Nat) (r : List Bool) : List Bool :=
  if r.getD i false = true then
    let r1 := if zs.getD i 0 < 128 then r.set (i + 1) true else r
    let r2 := if i + 2 ≤ zs.length ∧ lead (zs.getD i 0) = true ∧ trail (zs.getD (i + 1) 0) = true then r1.set (i + 2) true else r1
    if i + 4 ≤ zs.length ∧ lead (zs.getD i 0) = true ∧ digit (zs.getD (i + 1) 0) = true ∧ lead (zs.getD (i + 2) 0) = true ∧ digit (zs.getD (i + 3) 0) = true then r2.set (i + 4) true else r2
  else r

/-- What holds of the table ahead of round i. -/
def Seg (zs : List Int) (i : Nat) (r : List Bool) : Prop :=
  r.length = zs.length + 1 ∧ (∀ j, r.getD j false = true → gb zs = gb (zs.drop j)) ∧ (gb zs = true → ∃ j, i ≤ j ∧ j ≤ zs.length ∧ r.getD j false = true)

theorem getD_set (r : List Bool) (k j : Nat) (h : (r.set k true).getD j false = true) : j = k ∨ r.getD j false = true := by
  rw [List.getD_eq_getElem?_getD, List.getElem?_set] at h
  by_cases e : k = j
  · exact .inl e.symm
  · rw [if_neg e] at h
    exact .inr (by rw [List.getD_eq_getElem?_getD]; exact h)
theorem getD_set_same (r : List Bool) (k : Nat) (h : k < r.length) : (r.set k true).getD k false = true := by
  rw [List.getD_eq_getElem?_getD, List.getElem?_set]; simp [h]
theorem getD_set_keep (r : List Bool) (k j : Nat) (h : r.getD j false = true) : (r.set k true).getD j false = true := by
  rw [List.getD_eq_getElem?_getD] at h ⊢
  rw [List.getElem?_set]
  by_cases e : k = j
  · subst e
    by_cases l : k < r.length
    · simp [l]
    · rw [List.getElem?_eq_none (by omega)] at h; simp at h
  · rw [if_neg e]; exact h

theorem drop1 (zs : List Int) (i : Nat) (h : i + 1 ≤ zs.length) : zs.drop i = zs.getD i 0 :: zs.drop (i + 1) := by
  rw [List.drop_eq_getElem_cons (by omega), List.getD_eq_getElem?_getD, List.getElem?_eq_getElem (by omega)]; rfl
theorem drop2 (zs : List Int) (i : Nat) (h : i + 2 ≤ zs.length) : zs.drop i = zs.getD i 0 :: zs.getD (i + 1) 0 :: zs.drop (i + 2) := by
  rw [drop1 zs i (by omega), drop1 zs (i + 1) (by omega)]
theorem drop4 (zs : List Int) (i : Nat) (h : i + 4 ≤ zs.length) :
    zs.drop i = zs.getD i 0 :: zs.getD (i + 1) 0 :: zs.getD (i + 2) 0 :: zs.getD (i + 3) 0 :: zs.drop (i + 4) := by
  rw [drop2 zs i (by omega), drop2 zs (i + 2) (by omega)]

theorem seg_start (zs : List Int) : Seg zs 0 ((List.replicate (zs.length + 1) false).set 0 true) := by
  refine ⟨by simp, fun j hj => ?_, fun _ => ⟨0, Nat.le_refl _, Nat.zero_le _, getD_set_same _ _ (by simp)⟩⟩
  rcases getD_set _ _ _ hj with rfl | h
  · rfl
  · rw [List.getD_eq_getElem?_getD, List.getElem?_replicate] at h
    split at h <;> simp at h

/-- Setting one more place that is reached keeps the table sound. -/
theorem sound_set (zs : List Int) (r : List Bool) (k : Nat) (hs : ∀ j, r.getD j false = true → gb zs = gb (zs.drop j)) (hk : gb zs = gb (zs.drop k)) :
    ∀ j, (r.set k true).getD j false = true → gb zs = gb (zs.drop j) := by
  intro j hj
  rcases getD_set _ _ _ hj with rfl | h
  · exact hk
  · exact hs j h

/-- If a text that is not empty is accepted, one of the three forms stands at its head. -/
theorem gb_forms (zs : List Int) (i : Nat) (hi : i < zs.length) (h : gb (zs.drop i) = true) :
    zs.getD i 0 < 128 ∨ (i + 2 ≤ zs.length ∧ lead (zs.getD i 0) = true ∧ trail (zs.getD (i + 1) 0) = true) ∨
    (i + 4 ≤ zs.length ∧ lead (zs.getD i 0) = true ∧ digit (zs.getD (i + 1) 0) = true ∧ lead (zs.getD (i + 2) 0) = true ∧ digit (zs.getD (i + 3) 0) = true) := by
  by_cases h1 : zs.getD i 0 < 128
  · exact .inl h1
  right
  by_cases l2 : i + 2 ≤ zs.length
  · by_cases hl : lead (zs.getD i 0) = true
    · by_cases ht : trail (zs.getD (i + 1) 0) = true
      · exact .inl ⟨l2, hl, ht⟩
      · right
        have ht' : trail (zs.getD (i + 1) 0) = false := by simpa using ht
        by_cases l4 : i + 4 ≤ zs.length
        · refine ⟨l4, hl, ?_⟩
          by_cases hq : (lead (zs.getD i 0) && digit (zs.getD (i + 1) 0) && lead (zs.getD (i + 2) 0) && digit (zs.getD (i + 3) 0)) = true
          · simp only [Bool.and_eq_true] at hq
            exact ⟨hq.1.1.2, hq.1.2, hq.2⟩
          · rw [drop4 zs i l4, gb_none4 _ _ _ _ _ h1 ht' (by simpa using hq)] at h
            simp at h
        · by_cases l3 : i + 3 ≤ zs.length
          · rw [drop2 zs i l2, drop1 zs (i + 2) (by omega), List.drop_eq_nil_of_le (by omega), gb_short3 _ _ _ h1 ht'] at h
            simp at h
          · rw [drop2 zs i l2, List.drop_eq_nil_of_le (by omega), gb_short2 _ _ h1 ht'] at h
            simp at h
    · rw [drop1 zs i (by omega), gb_noLead _ _ h1 (by simpa using hl)] at h
      simp at h
  · rw [drop1 zs i (by omega), List.drop_eq_nil_of_le (by omega), gb_none1 _ h1] at h
    simp at h

theorem seg_step (zs : List Int) (i : Nat) (r : List Bool) (hi : i < zs.length) (h : Seg zs i r) : Seg zs (i + 1) (segAt zs i r) := by
  obtain ⟨hl, hs, hc⟩ := h
  unfold segAt
  by_cases hr : r.getD i false = true
  · rw [if_pos hr]
    have hg := hs i hr
    -- the three steps
    have A : ∃ r1, r1 = (if zs.getD i 0 < 128 then r.set (i + 1) true else r) ∧ r1.length = zs.length + 1 ∧ (∀ j, r1.getD j false = true → gb zs = gb (zs.drop j)) ∧ (zs.getD i 0 < 128 → r1.getD (i + 1) false = true) := by
      refine ⟨_, rfl, ?_⟩
      by_cases c : zs.getD i 0 < 128
      · rw [if_pos c]
        exact ⟨by simpa using hl, sound_set zs r (i + 1) hs (by rw [hg, drop1 zs i (by omega), gb_one _ _ c]), fun _ => getD_set_same _ _ (by omega)⟩
      · rw [if_neg c]
        exact ⟨hl, hs, fun h => absurd h c⟩
    obtain ⟨r1, e1, hl1, hs1, hc1⟩ := A
    have B : ∃ r2, r2 = (if i + 2 ≤ zs.length ∧ lead (zs.getD i 0) = true ∧ trail (zs.getD (i + 1) 0) = true then r1.set (i + 2) true else r1) ∧ r2.length = zs.length + 1 ∧ (∀ j, r2.getD j false = true → gb zs = gb (zs.drop j)) ∧
        (∀ j, r1.getD j false = true → r2.getD j false = true) ∧ (i + 2 ≤ zs.length ∧ lead (zs.getD i 0) = true ∧ trail (zs.getD (i + 1) 0) = true → r2.getD (i + 2) false = true) := by
      refine ⟨_, rfl, ?_⟩
      by_cases c : i + 2 ≤ zs.length ∧ lead (zs.getD i 0) = true ∧ trail (zs.getD (i + 1) 0) = true
      · rw [if_pos c]
        exact ⟨by simpa using hl1, sound_set zs r1 (i + 2) hs1 (by rw [hg, drop2 zs i c.1, gb_two _ _ _ c.2.1 c.2.2]), fun j => getD_set_keep _ _ _, fun _ => getD_set_same _ _ (by omega)⟩
      · rw [if_neg c]
        exact ⟨hl1, hs1, fun _ h => h, fun h => absurd h c⟩
    obtain ⟨r2, e2, hl2, hs2, hk2, hc2⟩ := B
    have C : ∃ r3, r3 = (if i + 4 ≤ zs.length ∧ lead (zs.getD i 0) = true ∧ digit (zs.getD (i + 1) 0) = true ∧ lead (zs.getD (i + 2) 0) = true ∧ digit (zs.getD (i + 3) 0) = true then r2.set (i + 4) true else r2) ∧ r3.length = zs.length + 1 ∧
        (∀ j, r3.getD j false = true → gb zs = gb (zs.drop j)) ∧ (∀ j, r2.getD j false = true → r3.getD j false = true) ∧
        (i + 4 ≤ zs.length ∧ lead (zs.getD i 0) = true ∧ digit (zs.getD (i + 1) 0) = true ∧ lead (zs.getD (i + 2) 0) = true ∧ digit (zs.getD (i + 3) 0) = true → r3.getD (i + 4) false = true) := by
      refine ⟨_, rfl, ?_⟩
      by_cases c : i + 4 ≤ zs.length ∧ lead (zs.getD i 0) = true ∧ digit (zs.getD (i + 1) 0) = true ∧ lead (zs.getD (i + 2) 0) = true ∧ digit (zs.getD (i + 3) 0) = true
      · rw [if_pos c]
        exact ⟨by simpa using hl2, sound_set zs r2 (i + 4) hs2 (by rw [hg, drop4 zs i c.1, gb_four _ _ _ _ _ c.2.1 c.2.2.1 c.2.2.2.1 c.2.2.2.2]), fun j => getD_set_keep _ _ _, fun _ => getD_set_same _ _ (by omega)⟩
      · rw [if_neg c]
        exact ⟨hl2, hs2, fun _ h => h, fun h => absurd h c⟩
    obtain ⟨r3, e3, hl3, hs3, hk3, hc3⟩ := C
    show Seg zs (i + 1) (if i + 4 ≤ zs.length ∧ lead (zs.getD i 0) = true ∧ digit (zs.getD (i + 1) 0) = true ∧ lead (zs.getD (i + 2) 0) = true ∧ digit (zs.getD (i + 3) 0) = true
      then (if i + 2 ≤ zs.length ∧ lead (zs.getD i 0) = true ∧ trail (zs.getD (i + 1) 0) = true then (if zs.getD i 0 < 128 then r.set (i + 1) true else r).set (i + 2) true else (if zs.getD i 0 < 128 then r.set (i + 1) true else r)).set (i + 4) true
      else (if i + 2 ≤ zs.length ∧ lead (zs.getD i 0) = true ∧ trail (zs.getD (i + 1) 0) = true then (if zs.getD i 0 < 128 then r.set (i + 1) true else r).set (i + 2) true else (if zs.getD i 0 < 128 then r.set (i + 1) true else r)))
    rw [← e1, ← e2, ← e3]
    refine ⟨hl3, hs3, fun hz => ?_⟩
    rcases gb_forms zs i hi (hg ▸ hz) with c | c | c
    · exact ⟨i + 1, Nat.le_refl _, by omega, hk3 _ (hk2 _ (hc1 c))⟩
    · exact ⟨i + 2, by omega, c.1, hk3 _ (hc2 c)⟩
    · exact ⟨i + 4, by omega, c.1, hc3 c⟩
  · rw [if_neg hr]
    refine ⟨hl, hs, fun hz => ?_⟩
    obtain ⟨j, h1, h2, h3⟩ := hc hz
    refine ⟨j, ?_, h2, h3⟩
    rcases Nat.lt_or_ge i j with l | l
    · exact l
    · have : j = i := by omega
      subst this
      exact absurd h3 hr

theorem seg_end (zs : List Int) (r : List Bool) (h : Seg zs zs.length r) : r.getD zs.length false = gb zs := by
  obtain ⟨hl, hs, hc⟩ := h
  cases hg : gb zs
  · cases hr : r.getD zs.length false
    · rfl
    · have := hs _ hr
      rw [List.drop_length, hg] at this
      simp [gb] at this
  · obtain ⟨j, h1, h2, h3⟩ := hc hg
    have : j = zs.length := by omega
    subst this
    exact h3

/-! ### The encoder -/
def enc (x : Int) : List Int :=
  if x % 3 = 0 then [x / 3 % 128]
  else if x % 3 = 1 then [129 + x / 3 % 126, if x / 3 / 126 % 190 < 63 then 64 + x / 3 / 126 % 190 else 128 + (x / 3 / 126 % 190 - 63)]
  else [129 + x / 3 % 126, 48 + x / 3 / 126 % 10, 129 + x / 3 / 126 / 10 % 126, 48 + x / 3 / 126 / 10 / 126 % 10]

theorem enc_cases (x : Int) (_h : 0 ≤ x) :
    (∃ a, enc x = [a] ∧ 0 ≤ a ∧ a < 128) ∨ (∃ a b, enc x = [a, b] ∧ lead a = true ∧ trail b = true) ∨
    (∃ a b c d, enc x = [a, b, c, d] ∧ lead a = true ∧ digit b = true ∧ lead c = true ∧ digit d = true) := by
  unfold enc
  by_cases h0 : x % 3 = 0
  · rw [if_pos h0]
    exact .inl ⟨_, rfl, by omega, by omega⟩
  · rw [if_neg h0]
    by_cases h1 : x % 3 = 1
    · rw [if_pos h1]
      refine .inr (.inl ⟨_, _, rfl, ?_, ?_⟩)
      · simp only [lead, decide_eq_true_eq]; omega
      · simp only [trail, decide_eq_true_eq]; split <;> omega
    · rw [if_neg h1]
      refine .inr (.inr ⟨_, _, _, _, rfl, ?_, ?_, ?_, ?_⟩)
      · simp only [lead, decide_eq_true_eq]; omega
      · simp only [digit, decide_eq_true_eq]; omega
      · simp only [lead, decide_eq_true_eq]; omega
      · simp only [digit, decide_eq_true_eq]; omega

theorem gb_enc (x : Int) (h : 0 ≤ x) (t : List Int) : gb (enc x ++ t) = gb t := by
  rcases enc_cases x h with ⟨a, e, _, ha⟩ | ⟨a, b, e, ha, hb⟩ | ⟨a, b, c, d, e, ha, hb, hc, hd⟩
  · rw [e]; exact gb_one _ _ ha
  · rw [e]; exact gb_two _ _ _ ha hb
  · rw [e]; exact gb_four _ _ _ _ _ ha hb hc hd

def encAll (xs : List Int) : List Int := xs.flatMap enc

theorem encAll_snoc (xs : List Int) (x : Int) : encAll (xs ++ [x]) = encAll xs ++ enc x := by simp [encAll]

theorem gb_encAll (xs : List Int) (h : ∀ x ∈ xs, 0 ≤ x) (t : List Int) : gb (encAll xs ++ t) = gb t := by
  induction xs with
  | nil => rfl
  | cons x xs ih =>
    show gb ((enc x ++ encAll xs) ++ t) = gb t
    rw [List.append_assoc, gb_enc x (h x (by simp)), ih fun y hy => h y (by simp [hy])]

theorem gb_cut (x : Int) (h : 0 ≤ x) (k : Nat) (h1 : 1 ≤ k) (h2 : k < (enc x).length) : gb ((enc x).take k) = false := by
  rcases enc_cases x h with ⟨a, e, _, ha⟩ | ⟨a, b, e, ha, hb⟩ | ⟨a, b, c, d, e, ha, hb, hc, hd⟩
  · rw [e] at h2; simp at h2; omega
  · have : k = 1 := by rw [e] at h2; simp at h2; omega
    subst this
    rw [e]
    exact gb_none1 _ (by simp [lead] at ha; omega)
  · have hb' := trail_of_digit b hb
    have ha' : ¬ a < 128 := by simp [lead] at ha; omega
    have : k = 1 ∨ k = 2 ∨ k = 3 := by rw [e] at h2; simp at h2; omega
    rw [e]
    rcases this with rfl | rfl | rfl
    · exact gb_none1 _ ha'
    · exact gb_short2 _ _ ha' hb'
    · exact gb_short3 _ _ _ ha' hb'

theorem gb_stray (s : Int) (hs : s = 128 ∨ s = 255) (t : List Int) : gb (s :: t) = false :=
  gb_noLead s t (by omega) (by simp [lead]; omega)

theorem enc_length (x : Int) (h : 0 ≤ x) : 1 ≤ (enc x).length ∧ (enc x).length ≤ 4 := by
  rcases enc_cases x h with ⟨a, e, _⟩ | ⟨a, b, e, _⟩ | ⟨a, b, c, d, e, _⟩ <;> rw [e] <;> simp
theorem encAll_length (xs : List Int) (h : ∀ x ∈ xs, 0 ≤ x) : (encAll xs).length ≤ 4 * xs.length := by
  induction xs with
  | nil => simp [encAll]
  | cons x xs ih =>
    have a := enc_length x (h x (by simp))
    have b := ih fun y hy => h y (by simp [hy])
    have : encAll (x :: xs) = enc x ++ encAll xs := rfl
    rw [this, List.length_append, List.length_cons]
    omega

/-! ### The loop's steps, at place k -/
theorem at_one {zs : List Int} {k : Nat} {r : Bool} (h : k < zs.length) (h0 : zs.getD k 0 < 128) (hr : gb (zs.drop k) = r) : gb (zs.drop (k + 1)) = r := by
  rw [drop1 zs k (by omega), gb_one _ _ h0] at hr
  exact hr
theorem at_two {zs : List Int} {k : Nat} {r : Bool} (h : k + 2 ≤ zs.length) (h0 : lead (zs.getD k 0) = true) (h1 : trail (zs.getD (k + 1) 0) = true) (hr : gb (zs.drop k) = r) : gb (zs.drop (k + 2)) = r := by
  rw [drop2 zs k h, gb_two _ _ _ h0 h1] at hr
  exact hr
theorem at_four {zs : List Int} {k : Nat} {r : Bool} (h : k + 4 ≤ zs.length) (h0 : lead (zs.getD k 0) = true) (h1 : digit (zs.getD (k + 1) 0) = true) (h2 : lead (zs.getD (k + 2) 0) = true) (h3 : digit (zs.getD (k + 3) 0) = true)
    (hr : gb (zs.drop k) = r) : gb (zs.drop (k + 4)) = r := by
  rw [drop4 zs k h, gb_four _ _ _ _ _ h0 h1 h2 h3] at hr
  exact hr
theorem no_lead {zs : List Int} {k : Nat} {r : Bool} (h : k < zs.length) (h0 : ¬ zs.getD k 0 < 128) (h1 : lead (zs.getD k 0) = false) (hr : gb (zs.drop k) = r) : r = false := by
  rw [drop1 zs k (by omega), gb_noLead _ _ h0 h1] at hr
  exact hr.symm
theorem no_last {zs : List Int} {k : Nat} {r : Bool} (h : k < zs.length) (hl : ¬ k + 2 ≤ zs.length) (h0 : ¬ zs.getD k 0 < 128) (hr : gb (zs.drop k) = r) : r = false := by
  rw [drop1 zs k (by omega), List.drop_eq_nil_of_le (by omega), gb_none1 _ h0] at hr
  exact hr.symm
theorem no_short {zs : List Int} {k : Nat} {r : Bool} (h : k + 2 ≤ zs.length) (hl : ¬ k + 4 ≤ zs.length) (h0 : ¬ zs.getD k 0 < 128) (h1 : trail (zs.getD (k + 1) 0) = false) (hr : gb (zs.drop k) = r) : r = false := by
  by_cases l3 : k + 3 ≤ zs.length
  · rw [drop2 zs k h, drop1 zs (k + 2) (by omega), List.drop_eq_nil_of_le (by omega), gb_short3 _ _ _ h0 h1] at hr
    exact hr.symm
  · rw [drop2 zs k h, List.drop_eq_nil_of_le (by omega), gb_short2 _ _ h0 h1] at hr
    exact hr.symm
theorem no_four {zs : List Int} {k : Nat} {r : Bool} (h : k + 4 ≤ zs.length) (h0 : ¬ zs.getD k 0 < 128) (h1 : trail (zs.getD (k + 1) 0) = false)
    (h2 : (lead (zs.getD k 0) && digit (zs.getD (k + 1) 0) && lead (zs.getD (k + 2) 0) && digit (zs.getD (k + 3) 0)) = false) (hr : gb (zs.drop k) = r) : r = false := by
  rw [drop4 zs k h, gb_none4 _ _ _ _ _ h0 h1 h2] at hr
  exact hr.symm

theorem lead_iff (b : Int) : lead b = true ↔ 129 ≤ b ∧ b ≤ 254 := by simp [lead]
theorem lead_not (b : Int) : lead b = false ↔ ¬ (129 ≤ b ∧ b ≤ 254) := by simp [lead]
theorem digit_iff (b : Int) : digit b = true ↔ 48 ≤ b ∧ b ≤ 57 := by simp [digit]
theorem digit_not (b : Int) : digit b = false ↔ ¬ (48 ≤ b ∧ b ≤ 57) := by simp [digit]
theorem trail_iff (b : Int) : trail b = true ↔ (64 ≤ b ∧ b ≤ 126) ∨ (128 ≤ b ∧ b ≤ 254) := by simp [trail]
theorem trail_not (b : Int) : trail b = false ↔ ¬ ((64 ≤ b ∧ b ≤ 126) ∨ (128 ≤ b ∧ b ≤ 254)) := by rw [← trail_iff]; simp

end Go.Proofs.Qxb6600037a.Gb
