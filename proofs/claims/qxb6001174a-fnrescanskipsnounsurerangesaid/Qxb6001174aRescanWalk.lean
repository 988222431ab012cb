/-
  ZZRescan, WALKED. (Its first loop's round is a region that draws its order and stores into the cell that it reads: thirty orders, walked one by one: some minutes.)
-/
import Derived.Test.Qxb6001174aRescan
namespace Go.Proofs.Qxb6001174a
open Go.RowKit
attribute [local go_sem ↓] Go.wp_at_zero Go.wp_at_succ

set_option maxRecDepth 100000 in
set_option maxHeartbeats 40000000 in
theorem zzrescan_any (after frontier : Int) (a : Option Addr) (len cap : Nat) (F T X : Nat → Int) (w : World) (hlen : len ≤ 43690) (hx : AtR w a len F T X) :
    Calls Try.prog 20 #[.int .i64 after, .int .i64 frontier, .slice a len cap] w fun e w' => ∃ v, e = .returned (.tuple #[.int .i64 (if len = 0 then after else F 0), .int .i64 frontier, v]) ∧ Below w.heap.size w w' := by
  obtain ⟨i1, hi1, hz0, hz1, hz2⟩ := info_parts Try.info41
  go_enter Try.func20, Try.ntmps20
  go_wp2
  go_loopw [10] (fun si wr => ∃ (k : Nat) (v : Value) (xs : List Value), k ≤ len ∧ si = .int .i64 k ∧ wr.cell? ⟨w.heap.size, 0, none⟩ = some (.int .i64 after) ∧ wr.cell? ⟨w.heap.size, 1, none⟩ = some (.int .i64 frontier) ∧
      wr.cell? ⟨w.heap.size, 2, none⟩ = some v ∧ wr.frozen? ⟨w.heap.size, 0, none⟩ = false ∧ wr.frozen? ⟨w.heap.size, 2, none⟩ = false ∧ wr.ownsRow (w.heap.size + 1) 41 3 v k xs ∧ Triples F T X k xs ∧ w.heap.size < wr.heap.size ∧ Below w.heap.size w wr)
    (fun si _ => len - (intOf si).toNat)
  case atStart => exact ⟨0, .slice none 0 0, [], Nat.zero_le _, rfl, by simp, by simp, by simp, by simp, by simp, World.ownsRow_nil _ _ _ _, fun j hj => by omega, by simp, (Below.refl _ _).alloc (Nat.le_refl _) _⟩
  case round =>
    obtain ⟨k, v, xs, hk, rfl, hc0, hc1, hc2, hf0, hf2, hown, hxs, hsz, hnx⟩ := hrel
    by_cases hlt : k < len
    · obtain ⟨b, off, rfl, hbl, hc⟩ := hx.resolve_left (by omega)
      have g0 : wr.cell? ⟨b, off + k * 3, none⟩ = some (.int .i64 (F k)) := (hnx.cell (by exact hbl)).trans (hc k hlt).1
      have g1 : wr.cell? ⟨b, off + k * 3 + 1, none⟩ = some (.int .i64 (T k)) := (hnx.cell (by exact hbl)).trans (hc k hlt).2.1
      have g2 : wr.cell? ⟨b, off + k * 3 + 2, none⟩ = some (.int .i64 (X k)) := (hnx.cell (by exact hbl)).trans (hc k hlt).2.2
      have ag := own_ne hown w.heap.size (by omega)
      have ab := own_ne hown b (by omega)
      have hi0' : (0 : Int) ≤ (k : Int) := Int.natCast_nonneg _
      have hi1' : (k : Int) < (len : Int) := by omega
      have hbw : b < wr.heap.size := by omega
      have hn : k + 1 ≤ maxLen := by unfold maxLen; omega
      have hb : (k + 1) * 24 ≤ 140737488355328 := by omega
      clear hx hc
      go_wp2_with fail
      go_region_law
        ((refine step_append_lies _ (by rfl) _ _ _ (by rfl) (w.heap.size + 1) 41 i1 _ 3 24 Try.underlying37 hi1 hz0 hz1 hz2 rfl (by omega) v k xs (by rfl) ((hown.alloc _).drew)
            ⟨wr.heap.size, 0, none⟩ 1 1 [.int .i64 (F k), .int .i64 (T k), .int .i64 (X k)] (by rfl) (by rfl) (World.news_of_block (cs := #[.int .i64 (F k), .int .i64 (T k), .int .i64 (X k)]) (t := 41) (fr := (0, 0)) (heap_alloc_new wr _)) (by simp [Value.oneCell'])
            (by omega) hn hb (by simp; omega) (wr.heap.size + 1) (by simp) ?_; intro gg cap1 w1 hown1 hgrow hat hlt1; have q2 : w1.cell? ⟨w.heap.size, 2, none⟩ = some v := (by rw [hgrow.cell_far _ (by simp; omega) (Ne.symm ag)]; simp [hc2, World.cell?_alloc_some]); have qf : w1.frozen? ⟨w.heap.size, 2, none⟩ = false := (by rw [hgrow.frozen_far _ (by simp; omega) (Ne.symm ag)]; simp [hf2, frozen?_alloc_cells])))
      all_goals
        have R := round1 hnx hsz hgrow hown hown1 hc0 hc1 hc2 hf0 hf2 hxs
        clear hgrow hown1 hc0 hc1 hc2 hf0 hf2 hxs hnx hown g0 g1 g2 q2 qf
        go_wp2
        go_roundw
        case rel => exact ⟨k + 1, _, _, by omega, by go_num, R⟩
        case measure => simp [intOf]; omega
    · have hke : k = len := by omega
      subst hke
      by_cases h0 : k = 0
      · -- no range: rescan does nothing
        subst h0
        obtain ⟨us, cu, rfl⟩ : ∃ us cu, v = .slice us 0 cu := by
          rcases hown.2 with ⟨h, _⟩ | ⟨g, cu, cur, h, _⟩
          · exact ⟨_, _, h⟩
          · exact ⟨_, _, h⟩
        clear hx hown hxs
        go_wp2_with (go_at_call 25; refine (rescan_none w.heap.size us cu wr hc2).mono ?_; rintro e w' ⟨rfl, hw⟩; have hw := hw.symm; subst hw)
        refine wp_loop_rounds 1 ?_
        rw [rounds_succ]
        go_wp2
        go_quiet (fail)
        go_wp2
        go_ret3
        exact ⟨⟨_, rfl⟩, below_drewN hnx _⟩
      · -- some range: the cursor goes back to the first one's start
        obtain ⟨u, cu, rfl, hul⟩ : ∃ u cu, v = .slice (some ⟨u, 0, none⟩) k cu ∧ w.heap.size + 1 ≤ u := by
          rcases hown.2 with ⟨_, h⟩ | ⟨g, cu, cur, h, hb, _⟩
          · omega
          · exact ⟨g, cu, h, hb⟩
        have hus : u < wr.heap.size := size_of_owns3 hown
        have hu : ∀ i, i < k → wr.cell? ⟨u, i * 3, none⟩ = some (.int .i64 (F i)) ∧ wr.cell? ⟨u, i * 3 + 1, none⟩ = some (.int .i64 (T i)) ∧ wr.cell? ⟨u, i * 3 + 2, none⟩ = some (.int .i64 (X i)) := fun i hi => by
          obtain ⟨x, y, z⟩ := hxs i hi
          exact ⟨(hown.cellAt _ (by omega)).trans x, (hown.cellAt _ (by omega)).trans y, (hown.cellAt _ (by omega)).trans z⟩
        have hu0 : wr.cell? ⟨u, 0, none⟩ = some (.int .i64 (F 0)) := by simpa using (hu 0 (by omega)).1
        clear hx hown hxs
        go_wp2_with (go_at_call 25; refine (rescan_some w.heap.size u k cu (F 0) _ wr (by omega) hc0 hf0 hc2 hu0).mono ?_; rintro e W2 ⟨rfl, hw⟩; have HW : Hid (W2 = wr.setCell ⟨w.heap.size, 0, none⟩ (.int .i64 (F 0))) := hw; clear hw)
        obtain ⟨d0, d1, d2, du, dsz, dnx⟩ := after1 HW.out hnx hul hus hc0 hc1 hc2 hu
        clear HW hc0 hc1 hc2 hu hu0 hf0 hf2 hnx hsz hus
        obtain ⟨i5, hi5, hy0, hy1, hy2⟩ := info_parts Try.info35
        go_loopw [11, 12] (fun so si wr => ∃ (j : Nat) (v2 : Value) (ys : List Value), j ≤ k ∧ si = .int .i64 j ∧ so = v2 ∧ wr.ownsRow W2.heap.size 35 3 v2 j ys ∧ Below W2.heap.size W2 wr)
          (fun _ si _ => k - (intOf si).toNat)
        case atStart => exact ⟨0, .slice none 0 0, [], Nat.zero_le _, rfl, rfl, World.ownsRow_nil _ _ _ _, Below.refl _ _⟩
        case round =>
          obtain ⟨j, v2, ys, hj, rfl, hso, hown2, hnx2⟩ := hrel
          have hso := hso.symm
          subst hso
          have hbw : w.heap.size < W2.heap.size := by omega
          have e0 : wr.cell? ⟨w.heap.size, 0, none⟩ = some (.int .i64 (F 0)) := (hnx2.cell (by exact hbw)).trans d0
          have e1 : wr.cell? ⟨w.heap.size, 1, none⟩ = some (.int .i64 frontier) := (hnx2.cell (by exact hbw)).trans d1
          have e2 : wr.cell? ⟨w.heap.size, 2, none⟩ = some (.slice (some ⟨u, 0, none⟩) k cu) := (hnx2.cell (by exact hbw)).trans d2
          by_cases hjl : j < k
          · have g0 : wr.cell? ⟨u, j * 3, none⟩ = some (.int .i64 (F j)) := (hnx2.cell (by exact dsz)).trans (du j hjl).1
            have g1 : wr.cell? ⟨u, j * 3 + 1, none⟩ = some (.int .i64 (T j)) := (hnx2.cell (by exact dsz)).trans (du j hjl).2.1
            have g2 : wr.cell? ⟨u, j * 3 + 2, none⟩ = some (.int .i64 (X j)) := (hnx2.cell (by exact dsz)).trans (du j hjl).2.2
            have ag := own_ne hown2 w.heap.size hbw
            have ab := own_ne hown2 u dsz
            have hi0' : (0 : Int) ≤ (j : Int) := Int.natCast_nonneg _
            have hi1' : (j : Int) < (k : Int) := by omega
            have hn : j + 1 ≤ maxLen := by unfold maxLen; omega
            have hb : (j + 1) * 24 ≤ 140737488355328 := by omega
            have hqs := hnx2.size
            clear d0 d1 d2 du
            go_wp2_with fail
            go_region_held3 (fun w' => w'.cell? ⟨w.heap.size, 2, none⟩ = some (.slice (some ⟨u, 0, none⟩) k cu) ∧ w'.cell? ⟨u, j * 3, none⟩ = some (.int .i64 (F j)) ∧
                w'.cell? ⟨u, j * 3 + 1, none⟩ = some (.int .i64 (T j)) ∧ w'.cell? ⟨u, j * 3 + 2, none⟩ = some (.int .i64 (X j)))
              (first
                | (go_keep; done)
                | (go_split_ands
                   refine ⟨?_, ?_, ?_, ?_⟩
                   · (rw [hgrow.cell_far _ (by simp; omega) (Ne.symm ag)]; assumption)
                   · (rw [hgrow.cell_far _ (by simp; omega) (Ne.symm ab)]; assumption)
                   · (rw [hgrow.cell_far _ (by simp; omega) (Ne.symm ab)]; assumption)
                   · (rw [hgrow.cell_far _ (by simp; omega) (Ne.symm ab)]; assumption)))
              ((refine step_append_lies _ (by rfl) _ _ _ (by rfl) W2.heap.size 35 i5 _ 3 24 Try.underlying29 hi5 hy0 hy1 hy2 rfl (by omega) v2 j ys (by rfl) ((hown2.alloc _).drew)
                  ⟨wr.heap.size, 0, none⟩ 1 1 [.int .i64 (F j), .int .i64 (T j), .int .i64 (X j)] (by rfl) (by rfl) (World.news_of_block (cs := #[.int .i64 (F j), .int .i64 (T j), .int .i64 (X j)]) (t := 35) (fr := (0, 0)) (heap_alloc_new wr _)) (by simp [Value.oneCell'])
                  (by omega) hn hb (by simp; omega) (wr.heap.size + 1) (by simp) ?_; intro gg cap1 w1 hown3 hgrow hat hlt1))
            go_wp2
            go_roundw
            case rel => exact ⟨j + 1, _, _, by omega, by go_num, rfl, hown3, (hnx2.alloc hnx2.size _).drew.grown hgrow (by simp; omega) (fun q hq => own_ge hown2 q hq)⟩
            case measure => simp [intOf]; omega
          · have hje : j = k := by omega
            subst hje
            clear d0 d1 d2 du hown2
            go_wp2
            go_quiet (fail)
            go_wp2
            go_ret3
            exact ⟨⟨_, rfl⟩, below_drewN (dnx.trans (hnx2.mono (by omega))) _⟩

end Go.Proofs.Qxb6001174a
