/-
  zzConcat_ofdfile_b1, WALKED: a new row that holds both.
-/
import Derived.Test.Qxb6600037aEnc
namespace Go.Proofs.Qxb6600037a
open Go.RowKit Go.WideShapes Gb

theorem below_push {w wr w2 : World} {o : Obj} (h : Below w.heap.size w wr) (hg : (wr.alloc o).grownBy w2 (some w.heap.size)) : Below w.heap.size w w2 :=
  (h.alloc h.size o).grown hg (by have := h.size; simp; omega) (fun k hk => by cases hk; exact Nat.le_refl _)
theorem take_snoc (A : List Int) (k : Nat) (h : k < A.length) : A.take (k + 1) = A.take k ++ [A.getD k 0] := by
  rw [List.take_succ_eq_append_getElem h, List.getD_eq_getElem?_getD, List.getElem?_eq_getElem h]
  rfl
theorem one_cell (u : Int) : ∀ v ∈ [Value.int .u8 u], v.oneCell' = true := by intro v hv; simp at hv; subst hv; rfl
theorem at_of_owns {w : World} {g n cap : Nat} {zs : List Int} {base : Nat} (h : w.ownsRow base 5 1 (.slice (some ⟨g, 0, none⟩) n cap) n (zs.map (Value.int .u8))) : At .u8 w (some ⟨g, 0, none⟩) n zs := by
  have hl : zs.length = n := by have := h.1; simpa using this
  refine ⟨hl, .inr ⟨g, 0, rfl, size_of_owns h, fun i hi => ?_⟩⟩
  rw [Nat.zero_add, h.cellAt i (by omega), List.getElem?_map, List.getElem?_eq_getElem (by omega), List.getD_eq_getElem?_getD, List.getElem?_eq_getElem (by omega)]
  rfl

set_option maxHeartbeats 2000000 in
theorem concat_any (a b : Option Addr) (la ca lb cb : Nat) (A B : List Int) (w : World) (hA : At .u8 w a la A) (hB : At .u8 w b lb B) (hla : la ≤ 1000000000) (hlb : lb ≤ 1000000000) :
    Calls Try.prog 10 #[.slice a la ca, .slice b lb cb] w fun e w' => e = .returned (.slice (some ⟨w.heap.size, 0, none⟩) (la + lb) (la + lb)) ∧
      At .u8 w' (some ⟨w.heap.size, 0, none⟩) (la + lb) (A ++ B) ∧ Below w.heap.size w w' := by
  obtain ⟨i0, hi, hz0, hz1, hz2⟩ := info_parts Try.info5
  obtain ⟨cap, hcap⟩ : ∃ cap, cap = la + lb := ⟨_, rfl⟩
  have HC : Hid (cap = la + lb) := hcap
  have hc1 : cap ≤ la + lb := by omega
  have hc2 : la + lb ≤ cap := by omega
  rw [← hcap]
  clear hcap
  go_enter Try.func10, Try.ntmps10
  go_wp2_with (at_make; refine wpList_make_own _ rfl _ _ 22 rfl w.heap.size 5 i0 (.int .u8 0) 1 Try.underlying22 hi hz0 hz1 _ _ _ cap rfl rfl (by omega) (by rw [hz2]; omega) (by unfold maxLen; omega) (Nat.le_refl _) ?_; intro w0 hown0 hgrow0)
  have hb0 : Below w.heap.size w w0 := (Below.refl _ _).grown hgrow0 (Nat.le_refl _) (fun k h => by cases h)
  clear hgrow0
  go_loopw [5, 6] (fun out si wr => ∃ k : Nat, k ≤ la ∧ si = .int .i64 k ∧ out = .slice (some ⟨w.heap.size, 0, none⟩) k cap ∧
      wr.ownsRow w.heap.size 5 1 (.slice (some ⟨w.heap.size, 0, none⟩) k cap) k ((A.take k).map (Value.int .u8)) ∧ Below w.heap.size w wr)
    (fun _ si _ => la - (intOf si).toNat)
  case atStart => exact ⟨0, Nat.zero_le _, rfl, rfl, hown0, hb0⟩
  case round =>
    obtain ⟨k, hk, rfl, rfl, hown, hnx⟩ := hrel
    clear hown0 hb0
    by_cases hlt : k < la
    · obtain ⟨x, off, rfl, hbl, hc⟩ := hA.2.resolve_left (by omega)
      have g : wr.cell? ⟨x, off + k, none⟩ = some (.int .u8 (A.getD k 0)) := (hnx.cell (by exact hbl)).trans (hc k hlt)
      have HT : Hid (A.take (k + 1) = A.take k ++ [A.getD k 0]) := take_snoc A k (by rw [hA.1]; exact hlt)
      clear hA hB hc
      go_wp2_with (at_builtin; refine wpList_append_fits _ rfl (.tmp 20) (.tmp 25) 22 rfl w.heap.size 5 i0 1 Try.underlying22 hi hz1 w.heap.size k cap _ rfl (hown.alloc _) ⟨wr.heap.size, 0, none⟩ 1 1 [.int .u8 (A.getD k 0)] rfl rfl (by first | exact cell_one_new _ _ _ | (have := cell_one_new wr (.int .u8 (A.getD k 0)) 5; simpa using this)) (one_cell _) (by omega) ?_; intro w2 hown2 hgrow2)
      go_roundw
      case rel => exact ⟨k + 1, by omega, by go_num, rfl, by rw [HT.out]; simpa using hown2, below_push hnx hgrow2⟩
      case measure => simp [intOf]; omega
    · have hke : k = la := by omega
      subst hke
      have HA : Hid (A.take k = A) := List.take_of_length_le (by rw [hA.1]; exact Nat.le_refl _)
      rw [HA.out] at hown
      clear hA
      go_wp2
      go_loopw [5, 7] (fun out si wr => ∃ j : Nat, j ≤ lb ∧ si = .int .i64 j ∧ out = .slice (some ⟨w.heap.size, 0, none⟩) (k + j) cap ∧
          wr.ownsRow w.heap.size 5 1 (.slice (some ⟨w.heap.size, 0, none⟩) (k + j) cap) (k + j) ((A ++ B.take j).map (Value.int .u8)) ∧ Below w.heap.size w wr)
        (fun _ si _ => lb - (intOf si).toNat)
      case atStart => exact ⟨0, Nat.zero_le _, rfl, rfl, by simpa using hown, hnx⟩
      case round =>
        obtain ⟨j, hj, rfl, rfl, hownB, hnxB⟩ := hrel
        clear hown hnx
        by_cases hltB : j < lb
        · obtain ⟨x, off, rfl, hbl, hc⟩ := hB.2.resolve_left (by omega)
          have g : wr.cell? ⟨x, off + j, none⟩ = some (.int .u8 (B.getD j 0)) := (hnxB.cell (by exact hbl)).trans (hc j hltB)
          have HT : Hid (B.take (j + 1) = B.take j ++ [B.getD j 0]) := take_snoc B j (by rw [hB.1]; exact hltB)
          clear hB hc
          go_wp2_with (at_builtin; refine wpList_append_fits _ rfl (.tmp 33) (.tmp 38) 22 rfl w.heap.size 5 i0 1 Try.underlying22 hi hz1 w.heap.size (k + j) cap _ rfl (hownB.alloc _) ⟨wr.heap.size, 0, none⟩ 1 1 [.int .u8 (B.getD j 0)] rfl rfl (by first | exact cell_one_new _ _ _ | (have := cell_one_new wr (.int .u8 (B.getD j 0)) 5; simpa using this)) (one_cell _) (by omega) ?_; intro w2 hown2 hgrow2)
          go_roundw
          case rel => exact ⟨j + 1, by omega, by go_num, rfl, by rw [HT.out, ← List.append_assoc, ← Nat.add_assoc]; simpa using hown2, below_push hnxB hgrow2⟩
          case measure => simp [intOf]; omega
        · have hje : j = lb := by omega
          have HB : Hid (B.take j = B) := List.take_of_length_le (by rw [hB.1, hje]; exact Nat.le_refl _)
          have HK : Hid (cap = k + j) := by rw [hje]; exact HC.out
          clear hB hje
          go_wp2
          go_ret
          rw [HB.out] at hownB
          have e := HK.out
          exact ⟨by rw [e]; rfl, by rw [e]; exact at_of_owns hownB, hnxB⟩

end Go.Proofs.Qxb6600037a
