/-
  FnNestingDepthStringsHideBrackets, WALKED.
-/
import Derived.Test.Qxb6001174aQuote
import Derived.ProofKit
namespace Go.Proofs.Qxb6001174a
open Go.RowKit Go.WideShapes Nest

theorem cell_four_new (w : World) (a b c d : Value) (t : TypeId) : ∀ j u, [a, b, c, d][j]? = some u → (w.alloc (.cells #[a, b, c, d] t)).cell? ((⟨w.heap.size, 0, none⟩ : Addr).add j) = some u := by
  intro j u h
  rw [add_plain, World.cell?_alloc_at _ _ _ _ rfl, Nat.zero_add]
  simpa using h
theorem four_cells : ∀ v ∈ [Value.int .u8 91, Value.int .u8 91, Value.int .u8 93, Value.int .u8 93], v.oneCell' = true := by
  intro v hv
  simp at hv
  rcases hv with rfl | rfl | rfl | rfl <;> rfl

/-- The bytes of a row, as an append asks for them. -/
theorem At.src {w w' : World} {g n : Nat} {zs : List Int} (h : At w (some ⟨g, 0, none⟩) n zs) (hb : Below w.heap.size w w') :
    ∀ j u, (zs.map (Value.int .u8))[j]? = some u → w'.cell? ((⟨g, 0, none⟩ : Addr).add j) = some u := by
  intro j u hj
  obtain ⟨hl, h⟩ := h.later hb
  rw [List.getElem?_map] at hj
  rcases Nat.lt_or_ge j zs.length with hlt | hge
  · rcases h with h | ⟨b, off, e, _, hc⟩
    · omega
    · simp only [Option.some.injEq, Addr.mk.injEq, and_true] at e
      obtain ⟨rfl, rfl⟩ := e
      rw [add_plain, hc j (by omega), ← hj, List.getElem?_eq_getElem hlt, List.getD_eq_getElem?_getD, List.getElem?_eq_getElem hlt]
      rfl
  · rw [List.getElem?_eq_none hge] at hj
    simp at hj
theorem ints_one (zs : List Int) : ∀ v ∈ zs.map (Value.int .u8), v.oneCell' = true := by
  intro v hv
  obtain ⟨z, _, rfl⟩ := List.mem_map.1 hv
  rfl
theorem at_of_owns {w : World} {g n cap : Nat} {zs : List Int} (h : w.ownsRow g 5 1 (.slice (some ⟨g, 0, none⟩) n cap) n (zs.map (Value.int .u8))) : At w (some ⟨g, 0, none⟩) n zs := by
  have hl : zs.length = n := by have := h.1; simpa using this
  refine ⟨hl, .inr ⟨g, 0, rfl, size_of_owns h, fun i hi => ?_⟩⟩
  rw [Nat.zero_add, h.cellAt i (by omega), List.getElem?_map, List.getElem?_eq_getElem (by omega), List.getD_eq_getElem?_getD, List.getElem?_eq_getElem (by omega)]
  rfl

set_option maxHeartbeats 1600000 in
theorem hide_walk (a0 : ByteArray) (w0 : a0.size ≤ maxLen) (w : World) :
    Calls Try.prog 5 #[.string a0] w fun e w' => e = .returned (.bool true) ∧ Below w.heap.size w w' := by
  unfold maxLen at w0
  by_cases hbig : (524280 : Int) < (a0.size : Int)
  · by_cases hb2 : (1048576 : Int) < (a0.size : Int)
    all_goals
      go_enter Try.func5, Try.ntmps5
      go_wp2
      go_ret
      exact ⟨rfl, Below.refl _ _⟩
  · obtain ⟨i0, hi, hz0, hz1, hz2⟩ := info_parts Try.info5
    have hq := quote_any a0 w (by omega)
    obtain ⟨Q, hQ⟩ : ∃ Q, Q = quote (bytesOf a0) := ⟨_, rfl⟩
    have hlq : Q.length ≤ 2000000 := by
      have := esc_length (bytesOf a0)
      rw [bytesOf_length] at this
      rw [hQ]
      simp [quote]
      omega
    have d0 : depth Q = 0 := by rw [hQ]; exact depth_quote _
    have d1 : depth (91 :: (Q ++ [93])) = 1 := by rw [hQ]; exact depth_quote_wrap _
    have d2 : depth (Q ++ [91, 91, 93, 93]) = 2 := by rw [hQ]; exact depth_quote_two _
    rw [← hQ] at hq
    obtain ⟨n, hn⟩ : ∃ n, n = Q.length := ⟨_, rfl⟩
    rw [← hn] at hq hlq
    have D0 : Hid (depth Q = 0) := d0
    have D1 : Hid (depth (91 :: (Q ++ [93])) = 1) := d1
    have D2 : Hid (depth (Q ++ [91, 91, 93, 93]) = 2) := d2
    have HN : Hid (n = Q.length) := hn
    clear hQ d0 d1 d2 hn
    go_enter Try.func5, Try.ntmps5
    go_wp2_with (go_at_call 15; go_in)
    refine hq.mono ?_
    rintro e w1 ⟨cap, rfl, h1, b1⟩
    clear hq
    go_wp2_with fail
    refine (depth_all _ n cap Q w1 h1 (by omega)).mono ?_
    rintro e w' ⟨rfl, hw⟩
    have hw := hw.symm
    subst hw
    rw [D0.out]
    go_wp2_with fail
    refine (wrap_all 91 93 _ n cap Q _ h1 (by omega)).mono ?_
    rintro e w2 ⟨rfl, h2, b2⟩
    go_wp2_with fail
    refine (depth_all _ (n + 2) (n + 2) _ w2 h2 (by omega)).mono ?_
    rintro e w' ⟨rfl, hw⟩
    have hw := hw.symm
    subst hw
    rw [D1.out]
    have hsrc : ∀ w', Below w1.heap.size w1 w' → ∀ j u, (Q.map (Value.int .u8))[j]? = some u → w'.cell? ((⟨w.heap.size, 0, none⟩ : Addr).add j) = some u := fun w' hb => h1.src hb
    have hQl : (Q.map (Value.int .u8)).length = n * 1 := by rw [List.length_map, HN.out]; omega
    go_wp2_with (first
      | (at_make; refine wpList_make_own _ rfl _ _ 23 rfl w2.heap.size 5 i0 (.int .u8 0) 1 Try.underlying23 hi hz0 hz1 _ _ _ (n + 4) rfl rfl (by omega) (by rw [hz2]; omega) (by unfold maxLen; omega) (Nat.le_refl _) ?_; intro w3 hown3 hgrow3)
      | (at_builtin; refine wpList_append_fits _ rfl (.tmp 24) (.tmp 25) 23 rfl w2.heap.size 5 i0 1 Try.underlying23 hi hz1 w2.heap.size 0 (n + 4) _ rfl hown3 ⟨w.heap.size, 0, none⟩ n cap (Q.map (Value.int .u8)) rfl hQl (hsrc _ (b2.grown hgrow3 b2.size (fun k h => by cases h))) (ints_one Q) (by omega) ?_; intro w4 hown4 hgrow4; simp only [Nat.zero_add, List.nil_append] at hown4)
      | (at_builtin; refine wpList_append_fits _ rfl (.tmp 27) (.tmp 28) 23 rfl w2.heap.size 5 i0 1 Try.underlying23 hi hz1 w2.heap.size n (n + 4) _ rfl (hown4.alloc _) ⟨w4.heap.size, 0, none⟩ 4 4 [.int .u8 91, .int .u8 91, .int .u8 93, .int .u8 93] rfl rfl (cell_four_new _ _ _ _ _ _) four_cells (by omega) ?_; intro w5 hown5 hgrow5))
    have h5 : At w5 (some ⟨w2.heap.size, 0, none⟩) (n + 4) (Q ++ [91, 91, 93, 93]) := at_of_owns (by simpa using hown5)
    have b5 : Below w2.heap.size w2 w5 := by
      have b3 : Below w2.heap.size w2 w3 := (Below.refl _ _).grown hgrow3 (Nat.le_refl _) (fun k h => by cases h)
      have b4 : Below w2.heap.size w2 w4 := b3.grown hgrow4 b3.size (fun k hk => by cases hk; exact Nat.le_refl _)
      exact below_push b4 hgrow5
    refine (depth_all _ (n + 4) (n + 4) _ w5 h5 (by omega)).mono ?_
    rintro e w' ⟨rfl, hw⟩
    have hw := hw.symm
    subst hw
    rw [D2.out]
    go_wp2
    go_ret
    exact ⟨rfl, b1.trans ((b2.trans (b5.mono b2.size)).mono b1.size)⟩

end Go.Proofs.Qxb6001174a
