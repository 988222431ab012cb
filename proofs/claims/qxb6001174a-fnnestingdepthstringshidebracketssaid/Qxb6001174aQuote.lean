/-
  zzQuote, WALKED: a new row that holds 'Nest.quote' of the string's bytes.
-/
import Derived.Test.Qxb6001174aAll
namespace Go.Proofs.Qxb6001174a
open Go.RowKit Nest

def bytesOf (s : ByteArray) : List Int := s.data.toList.map fun b => (b.toNat : Int)

theorem bytesOf_length (s : ByteArray) : (bytesOf s).length = s.size := by simp [bytesOf]
theorem bytesOf_snoc (s : ByteArray) (k : Nat) (h : k < s.size) : (bytesOf s).take (k + 1) = (bytesOf s).take k ++ [(s[k].toNat : Int)] := by
  rw [List.take_succ_eq_append_getElem (by rw [bytesOf_length]; exact h)]
  congr 1
  simp [bytesOf]
  rfl

/-- What has been written ahead of byte k. -/
def soFar (s : ByteArray) (k : Nat) : List Int := 34 :: esc ((bytesOf s).take k)
theorem soFar_length (s : ByteArray) (k : Nat) : 1 ≤ (soFar s k).length ∧ (soFar s k).length ≤ 2 * k + 1 := by
  have h := esc_length ((bytesOf s).take k)
  have : ((bytesOf s).take k).length ≤ k := List.length_take_le _ _
  simp [soFar]
  omega
theorem soFar_esc (s : ByteArray) (k : Nat) (h : k < s.size) (c : Int) (hc : c = (s[k].toNat : Int)) (h2 : c = 34 ∨ c = 92) : soFar s (k + 1) = soFar s k ++ [92] ++ [c] := by
  unfold soFar
  rw [bytesOf_snoc s k h, esc_append, ← hc]
  simp [esc, h2]
theorem soFar_plain (s : ByteArray) (k : Nat) (h : k < s.size) (c : Int) (hc : c = (s[k].toNat : Int)) (h2 : ¬ (c = 34 ∨ c = 92)) : soFar s (k + 1) = soFar s k ++ [c] := by
  unfold soFar
  rw [bytesOf_snoc s k h, esc_append, ← hc]
  simp [esc, h2]
theorem soFar_end (s : ByteArray) : soFar s s.size ++ [34] = quote (bytesOf s) := by
  unfold soFar quote
  rw [List.take_of_length_le (by rw [bytesOf_length]; exact Nat.le_refl _)]
  rfl

theorem one_cell (u : Int) : ∀ v ∈ [Value.int .u8 u], v.oneCell' = true := by intro v hv; simp at hv; subst hv; rfl

theorem ret_slice {a : Option Addr} {m n c : Nat} (h : m = n) : Ending.returned (.slice a n c) = .returned (.slice a m c) := by rw [h]

theorem below_push {w wr w2 : World} {o : Obj} (h : Below w.heap.size w wr) (hg : (wr.alloc o).grownBy w2 (some w.heap.size)) : Below w.heap.size w w2 :=
  (h.alloc h.size o).grown hg (by have := h.size; simp; omega) (fun k hk => by cases hk; exact Nat.le_refl _)

set_option maxHeartbeats 1600000 in
theorem quote_any (s : ByteArray) (w : World) (hs : s.size ≤ 524280) :
    Calls Try.prog 16 #[.string s] w fun e w' => ∃ cap, e = .returned (.slice (some ⟨w.heap.size, 0, none⟩) (quote (bytesOf s)).length cap) ∧
      At w' (some ⟨w.heap.size, 0, none⟩) (quote (bytesOf s)).length (quote (bytesOf s)) ∧ Below w.heap.size w w' := by
  obtain ⟨i0, hi, hz0, hz1, hz2⟩ := info_parts Try.info5
  obtain ⟨cap, hcap⟩ : ∃ cap, cap = 2 * s.size + 2 := ⟨_, rfl⟩
  have HC : Hid (cap = 2 * s.size + 2) := hcap
  have hc1 : cap ≤ 2 * s.size + 2 := by omega
  have hc2 : 2 * s.size + 2 ≤ cap := by omega
  clear hcap
  go_enter Try.func16, Try.ntmps16
  go_wp2_with (first
    | (at_make; refine wpList_make_own _ rfl _ _ 23 rfl w.heap.size 5 i0 (.int .u8 0) 1 Try.underlying23 hi hz0 hz1 _ _ _ cap rfl rfl (by omega) (by rw [hz2]; omega) (by unfold maxLen; omega) (Nat.le_refl _) ?_; intro w0 hown0 hgrow0)
    | (at_builtin; refine wpList_append_fits _ rfl (.tmp 11) (.tmp 12) 23 rfl w.heap.size 5 i0 1 Try.underlying23 hi hz1 w.heap.size 0 cap _ rfl (hown0.alloc _) ⟨w0.heap.size, 0, none⟩ 1 1 [.int .u8 34] rfl rfl (cell_one_new _ _ _) (one_cell _) (by omega) ?_; intro w1 hown1 hgrow1))
  have hb1 : Below w.heap.size w w1 := (((Below.refl _ _).grown hgrow0 (Nat.le_refl _) (fun k h => by cases h)).alloc hgrow0.size _).grown hgrow1 (by have := hgrow0.size; simp; omega) (fun k hk => by cases hk; exact Nat.le_refl _)
  simp only [Nat.zero_add, List.nil_append] at hown1
  clear hgrow0 hgrow1 hown0
  go_loopw [3, 4] (fun out si wr => ∃ (k n : Nat), k ≤ s.size ∧ si = .int .i64 k ∧ Hid (n = (soFar s k).length) ∧ out = .slice (some ⟨w.heap.size, 0, none⟩) n cap ∧
      wr.ownsRow w.heap.size 5 1 (.slice (some ⟨w.heap.size, 0, none⟩) n cap) n ((soFar s k).map (Value.int .u8)) ∧ Below w.heap.size w wr)
    (fun _ si _ => s.size - (intOf si).toNat)
  case atStart => exact ⟨0, 1, Nat.zero_le _, rfl, rfl, rfl, hown1, hb1⟩
  case round =>
    obtain ⟨k, n, hk, rfl, HN, rfl, hown, hnx⟩ := hrel
    clear hown1 hb1
    have hn : n ≤ 2 * k + 1 := by rw [HN.out]; exact (soFar_length s k).2
    by_cases hlt : k < s.size
    · obtain ⟨c, hc⟩ : ∃ c : Int, c = (s[k].toNat : Int) := ⟨_, rfl⟩
      have HK : Hid (c = (s[k].toNat : Int)) := hc
      by_cases hesc : c = 34 ∨ c = 92
      · have HE : Hid (soFar s (k + 1) = soFar s k ++ [92] ++ [c]) := soFar_esc s k hlt c hc hesc
        have HL : Hid (n + 1 + 1 = (soFar s (k + 1)).length) := by rw [HE.out]; simp [Hid]; rw [HN.out]
        have fin : ∀ w2 : World, w2.ownsRow w.heap.size 5 1 (.slice (some ⟨w.heap.size, 0, none⟩) (n + 1 + 1) cap) (n + 1 + 1) ((soFar s k).map (Value.int .u8) ++ [.int .u8 92] ++ [.int .u8 ((s[k].toNat : Int))]) →
            w2.ownsRow w.heap.size 5 1 (.slice (some ⟨w.heap.size, 0, none⟩) (n + 1 + 1) cap) (n + 1 + 1) ((soFar s (k + 1)).map (Value.int .u8)) := by
          intro w2 h
          rw [HE.out, HK.out]
          simpa using h
        rcases hesc with h34 | h92
        · have e1 : ((s[k].toNat : Int) == 34) = true := by rw [← hc, h34]; rfl
          clear h34 hc
          go_wp2_with (first
            | (at_builtin; refine wpList_append_fits _ rfl (.tmp 29) (.tmp 30) 23 rfl w.heap.size 5 i0 1 Try.underlying23 hi hz1 w.heap.size n cap _ rfl (hown.alloc _) ⟨wr.heap.size, 0, none⟩ 1 1 [.int .u8 92] rfl rfl (cell_one_new _ _ _) (one_cell _) (by omega) ?_; intro w2 hown2 hgrow2)
            | (at_builtin; refine wpList_append_fits _ rfl (.tmp 32) (.tmp 34) 23 rfl w.heap.size 5 i0 1 Try.underlying23 hi hz1 w.heap.size (n + 1) cap _ rfl (hown2.alloc _) ⟨w2.heap.size, 0, none⟩ 1 1 [.int .u8 (s[k].toNat : Int)] rfl rfl (cell_one_new _ _ _) (one_cell _) (by omega) ?_; intro w3 hown3 hgrow3))
          go_roundw
          case rel => exact ⟨k + 1, n + 1 + 1, by omega, by go_num, HL, rfl, fin _ hown3, below_push (below_push hnx hgrow2) hgrow3⟩
          case measure => simp [intOf]; omega
        · have e1 : ((s[k].toNat : Int) == 34) = false := by rw [← hc, h92]; rfl
          have e2 : ((s[k].toNat : Int) == 92) = true := by rw [← hc, h92]; rfl
          clear h92 hc
          go_wp2_with (first
            | (at_builtin; refine wpList_append_fits _ rfl (.tmp 29) (.tmp 30) 23 rfl w.heap.size 5 i0 1 Try.underlying23 hi hz1 w.heap.size n cap _ rfl (hown.alloc _) ⟨wr.heap.size, 0, none⟩ 1 1 [.int .u8 92] rfl rfl (cell_one_new _ _ _) (one_cell _) (by omega) ?_; intro w2 hown2 hgrow2)
            | (at_builtin; refine wpList_append_fits _ rfl (.tmp 32) (.tmp 34) 23 rfl w.heap.size 5 i0 1 Try.underlying23 hi hz1 w.heap.size (n + 1) cap _ rfl (hown2.alloc _) ⟨w2.heap.size, 0, none⟩ 1 1 [.int .u8 (s[k].toNat : Int)] rfl rfl (cell_one_new _ _ _) (one_cell _) (by omega) ?_; intro w3 hown3 hgrow3))
          go_roundw
          case rel => exact ⟨k + 1, n + 1 + 1, by omega, by go_num, HL, rfl, fin _ hown3, below_push (below_push hnx hgrow2) hgrow3⟩
          case measure => simp [intOf]; omega
      · have HE : Hid (soFar s (k + 1) = soFar s k ++ [c]) := soFar_plain s k hlt c hc hesc
        have HL : Hid (n + 1 = (soFar s (k + 1)).length) := by rw [HE.out]; simp [Hid]; rw [HN.out]
        have fin : ∀ w2 : World, w2.ownsRow w.heap.size 5 1 (.slice (some ⟨w.heap.size, 0, none⟩) (n + 1) cap) (n + 1) ((soFar s k).map (Value.int .u8) ++ [.int .u8 ((s[k].toNat : Int))]) →
            w2.ownsRow w.heap.size 5 1 (.slice (some ⟨w.heap.size, 0, none⟩) (n + 1) cap) (n + 1) ((soFar s (k + 1)).map (Value.int .u8)) := by
          intro w2 h
          rw [HE.out, HK.out]
          simpa using h
        have e1 : ((s[k].toNat : Int) == 34) = false := by rw [← hc]; simp; omega
        have e2 : ((s[k].toNat : Int) == 92) = false := by rw [← hc]; simp; omega
        clear hesc hc
        go_wp2_with (at_builtin; refine wpList_append_fits _ rfl (.tmp 32) (.tmp 34) 23 rfl w.heap.size 5 i0 1 Try.underlying23 hi hz1 w.heap.size n cap _ rfl (hown.alloc _) ⟨wr.heap.size, 0, none⟩ 1 1 [.int .u8 (s[k].toNat : Int)] rfl rfl (cell_one_new _ _ _) (one_cell _) (by omega) ?_; intro w2 hown2 hgrow2)
        go_roundw
        case rel => exact ⟨k + 1, n + 1, by omega, by go_num, HL, rfl, fin _ hown2, below_push hnx hgrow2⟩
        case measure => simp [intOf]; omega
    · have hke : k = s.size := by omega
      have HQ : Hid ((quote (bytesOf s)).length = n + 1) := by rw [← soFar_end]; simp [Hid]; rw [HN.out, hke]
      have HM : Hid ((soFar s k).map (Value.int .u8) ++ [.int .u8 34] = (quote (bytesOf s)).map (Value.int .u8)) := by rw [← soFar_end, hke]; simp [Hid]
      clear hke
      go_wp2_with (at_builtin; refine wpList_append_fits _ rfl (.tmp 36) (.tmp 37) 23 rfl w.heap.size 5 i0 1 Try.underlying23 hi hz1 w.heap.size n cap _ rfl (hown.alloc _) ⟨wr.heap.size, 0, none⟩ 1 1 [.int .u8 34] rfl rfl (cell_one_new _ _ _) (one_cell _) (by omega) ?_; intro w2 hown2 hgrow2)
      go_ret
      refine ⟨cap, ret_slice HQ.out, ⟨rfl, .inr ⟨_, _, rfl, size_of_owns hown2, fun i h => ?_⟩⟩, below_push hnx hgrow2⟩
      rw [Nat.zero_add, hown2.cellAt i (by rw [HQ.out] at h; omega), HM.out]
      simp only [List.getElem?_map, List.getD_eq_getElem?_getD]
      rw [List.getElem?_eq_getElem h]
      rfl

end Go.Proofs.Qxb6001174a
