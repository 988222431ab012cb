/-
  zzEncodeGB_ofdfile_b1, WALKED: it appends 'Gb.enc'.
-/
import Derived.Test.Qxb6600037aIsAll
import Derived.WalkSmall
namespace Go.Proofs.Qxb6600037a
open Go.RowKit Go.WideShapes Gb

theorem cell_four_new (w : World) (a b c d : Value) (t : TypeId) : ∀ j u, [a, b, c, d][j]? = some u → (w.alloc (.cells #[a, b, c, d] t)).cell? ((⟨w.heap.size, 0, none⟩ : Addr).add j) = some u := by
  intro j u h
  rw [add_plain, World.cell?_alloc_at _ _ _ _ rfl, Nat.zero_add]
  simpa using h
theorem ints_one (zs : List Int) : ∀ v ∈ zs.map (Value.int .u8), v.oneCell' = true := by
  intro v hv
  obtain ⟨z, _, rfl⟩ := List.mem_map.1 hv
  rfl
theorem own_ge {w : World} {base : Nat} {e : TypeId} {size : Nat} {v : Value} {n : Nat} {xs : List Value} (h : w.ownsRow base e size v n xs) (x : Nat) (hx : v.ownBlock = some x) : base ≤ x := by
  rcases h.2 with ⟨rfl, _⟩ | ⟨g, cap, cur, rfl, hb, _⟩
  · simp [Value.ownBlock] at hx
  · simp [Value.ownBlock] at hx
    omega
theorem below_app {w w' : World} {o : Obj} {base : Nat} {e : TypeId} {size : Nat} {v : Value} {n : Nat} {xs : List Value} (hbase : base ≤ w.heap.size) (hown : w.ownsRow base e size v n xs) (hg : (w.alloc o).grownBy w' v.ownBlock) : Below base w w' :=
  ((Below.refl _ _).alloc hbase o).grown hg (by simp; omega) (fun k hk => own_ge hown k hk)

/-- What the encoder leaves. -/
def Left (x : Int) (base n : Nat) (xs : List Value) (w : World) (e : Ending) (w' : World) : Prop :=
  ∃ v', e = .returned v' ∧ w'.ownsRow base 5 1 v' (n + (enc x).length) (xs ++ (enc x).map (.int .u8)) ∧ Below base w w'

set_option maxHeartbeats 1000000 in
theorem enc_one (x : Int) (h0 : 0 ≤ x) (h1 : x < 4294967296) (v : Value) (n base : Nat) (xs : List Value) (w : World) (hown : w.ownsRow base 5 1 v n xs) (hbase : base ≤ w.heap.size) (hn : n ≤ 1000000000)
    (hm0 : (x % 3 == 0) = true) :
    Calls Try.prog 19 #[.int .u32 x, v] w fun e w' => Left x base n xs w e w' := by
  obtain ⟨i0, hi, hz0, hz1, hz2⟩ := info_parts Try.info5
  have HE : Hid (enc x = [x / 3 % 128]) := by simp only [beq_iff_eq] at hm0; simp only [Hid, enc]; rw [if_pos hm0]
  go_enter Try.func19, Try.ntmps19
  go_wp2_with (at_builtin; refine wpList_append_own _ rfl (.tmp 48) (.tmp 52) 22 rfl base 5 i0 (.int .u8 0) 1 1 Try.underlying22 hi hz0 hz1 hz2 rfl (by decide) v n xs rfl (hown.alloc _) ⟨w.heap.size, 0, none⟩ 1 1 ([x / 3 % 128].map (Value.int .u8)) rfl rfl (cell_one_new _ _ _) (ints_one _) (by unfold maxLen; omega) (by omega) (by simp; omega) ?_; intro v' w' hown' hgrow hnil)
  go_ret
  refine ⟨_, rfl, ?_, below_app hbase hown hgrow⟩
  rw [HE.out]
  exact hown'

set_option maxHeartbeats 1000000 in
theorem enc_twoA (x : Int) (h0 : 0 ≤ x) (h1 : x < 4294967296) (v : Value) (n base : Nat) (xs : List Value) (w : World) (hown : w.ownsRow base 5 1 v n xs) (hbase : base ≤ w.heap.size) (hn : n ≤ 1000000000)
    (hm0 : (x % 3 == 0) = false) (hm1 : (x % 3 == 1) = true) (ht : x / 3 / 126 % 190 < 63) :
    Calls Try.prog 19 #[.int .u32 x, v] w fun e w' => Left x base n xs w e w' := by
  obtain ⟨i0, hi, hz0, hz1, hz2⟩ := info_parts Try.info5
  have HE : Hid (enc x = [129 + x / 3 % 126, 64 + x / 3 / 126 % 190]) := by simp only [beq_eq_false_iff_ne, ne_eq, beq_iff_eq] at hm0 hm1; simp only [Hid, enc]; rw [if_neg hm0, if_pos hm1, if_pos ht]
  go_enter Try.func19, Try.ntmps19
  go_wp2_with (at_builtin; refine wpList_append_own _ rfl (.tmp 72) (.tmp 75) 22 rfl base 5 i0 (.int .u8 0) 1 1 Try.underlying22 hi hz0 hz1 hz2 rfl (by decide) v n xs rfl (hown.alloc _) ⟨w.heap.size, 0, none⟩ 2 2 ([129 + x / 3 % 126, 64 + x / 3 / 126 % 190].map (Value.int .u8)) rfl rfl (cell_two_new _ _ _ _) (ints_one _) (by unfold maxLen; omega) (by omega) (by simp; omega) ?_; intro v' w' hown' hgrow hnil)
  go_ret
  refine ⟨_, rfl, ?_, below_app hbase hown hgrow⟩
  rw [HE.out]
  exact hown'

set_option maxHeartbeats 1000000 in
theorem enc_twoB (x : Int) (h0 : 0 ≤ x) (h1 : x < 4294967296) (v : Value) (n base : Nat) (xs : List Value) (w : World) (hown : w.ownsRow base 5 1 v n xs) (hbase : base ≤ w.heap.size) (hn : n ≤ 1000000000)
    (hm0 : (x % 3 == 0) = false) (hm1 : (x % 3 == 1) = true) (ht : ¬ x / 3 / 126 % 190 < 63) :
    Calls Try.prog 19 #[.int .u32 x, v] w fun e w' => Left x base n xs w e w' := by
  obtain ⟨i0, hi, hz0, hz1, hz2⟩ := info_parts Try.info5
  have HE : Hid (enc x = [129 + x / 3 % 126, 128 + (x / 3 / 126 % 190 - 63)]) := by simp only [beq_eq_false_iff_ne, ne_eq, beq_iff_eq] at hm0 hm1; simp only [Hid, enc]; rw [if_neg hm0, if_pos hm1, if_neg ht]
  go_enter Try.func19, Try.ntmps19
  go_wp2_with (at_builtin; refine wpList_append_own _ rfl (.tmp 72) (.tmp 75) 22 rfl base 5 i0 (.int .u8 0) 1 1 Try.underlying22 hi hz0 hz1 hz2 rfl (by decide) v n xs rfl (hown.alloc _) ⟨w.heap.size, 0, none⟩ 2 2 ([129 + x / 3 % 126, 128 + (x / 3 / 126 % 190 - 63)].map (Value.int .u8)) rfl rfl (cell_two_new _ _ _ _) (ints_one _) (by unfold maxLen; omega) (by omega) (by simp; omega) ?_; intro v' w' hown' hgrow hnil)
  go_ret
  refine ⟨_, rfl, ?_, below_app hbase hown hgrow⟩
  rw [HE.out]
  exact hown'

set_option maxHeartbeats 1000000 in
theorem enc_fourA (x : Int) (h0 : 0 ≤ x) (h1 : x < 4294967296) (v : Value) (n base : Nat) (xs : List Value) (w : World) (hown : w.ownsRow base 5 1 v n xs) (hbase : base ≤ w.heap.size) (hn : n ≤ 1000000000)
    (hm0 : (x % 3 == 0) = false) (hm1 : (x % 3 == 1) = false) :
    Calls Try.prog 19 #[.int .u32 x, v] w fun e w' => Left x base n xs w e w' := by
  obtain ⟨i0, hi, hz0, hz1, hz2⟩ := info_parts Try.info5
  have HE : Hid (enc x = [129 + x / 3 % 126, 48 + x / 3 / 126 % 10, 129 + x / 3 / 126 / 10 % 126, 48 + x / 3 / 126 / 10 / 126 % 10]) := by simp only [beq_eq_false_iff_ne, ne_eq] at hm0 hm1; simp only [Hid, enc]; rw [if_neg hm0, if_neg hm1]
  go_enter Try.func19, Try.ntmps19
  go_wp2_with (at_builtin; refine wpList_append_own _ rfl (.tmp 39) (.tmp 44) 22 rfl base 5 i0 (.int .u8 0) 1 1 Try.underlying22 hi hz0 hz1 hz2 rfl (by decide) v n xs rfl (hown.alloc _) ⟨w.heap.size, 0, none⟩ 4 4 ([129 + x / 3 % 126, 48 + x / 3 / 126 % 10, 129 + x / 3 / 126 / 10 % 126, 48 + x / 3 / 126 / 10 / 126 % 10].map (Value.int .u8)) rfl rfl (cell_four_new _ _ _ _ _ _) (ints_one _) (by unfold maxLen; omega) (by omega) (by simp; omega) ?_; intro v' w' hown' hgrow hnil)
  go_ret
  refine ⟨_, rfl, ?_, below_app hbase hown hgrow⟩
  rw [HE.out]
  exact hown'

theorem enc_any (x : Int) (h0 : 0 ≤ x) (h1 : x < 4294967296) (v : Value) (n base : Nat) (xs : List Value) (w : World) (hown : w.ownsRow base 5 1 v n xs) (hbase : base ≤ w.heap.size) (hn : n ≤ 1000000000) :
    Calls Try.prog 19 #[.int .u32 x, v] w fun e w' => Left x base n xs w e w' := by
  cases hm0 : (x % 3 == 0)
  · cases hm1 : (x % 3 == 1)
    · exact enc_fourA x h0 h1 v n base xs w hown hbase hn hm0 hm1
    · by_cases ht : x / 3 / 126 % 190 < 63
      · exact enc_twoA x h0 h1 v n base xs w hown hbase hn hm0 hm1 ht
      · exact enc_twoB x h0 h1 v n base xs w hown hbase hn hm0 hm1 ht
  · exact enc_one x h0 h1 v n base xs w hown hbase hn hm0

end Go.Proofs.Qxb6600037a
