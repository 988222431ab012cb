/-
  convergence, WALKED: it computes 'Cvg.verdict'.
-/
import Derived.Test.Qxb6601336aBytes
import Derived.Test.Qxb6601336aConv
namespace Go.Proofs.Qxb6601336a
open Go.RowKit Cvg

theorem one_str (u : ByteArray) : ∀ v ∈ [Value.string u], v.oneCell' = true := by intro v hv; simp at hv; subst hv; rfl
theorem first_getD (ds : List ByteArray) : first ds = ds.getD 0 ByteArray.empty := by cases ds <;> rfl
theorem ret_str {a b : ByteArray} (h : a = b) : Ending.returned (.string b) = .returned (.string a) := by rw [h]
theorem own_ge {w : World} {base : Nat} {e : TypeId} {size : Nat} {v : Value} {n : Nat} {xs : List Value} (h : w.ownsRow base e size v n xs) (x : Nat) (hx : v.ownBlock = some x) : base ≤ x := by
  rcases h.2 with ⟨rfl, _⟩ | ⟨g, cap, cur, rfl, hb, _⟩
  · simp [Value.ownBlock] at hx
  · simp [Value.ownBlock] at hx
    omega

/-- The logs: pointers to nodes whose three fields are known. -/
def Logs (w : World) (B n : Nat) (p : Nat → Nat) (E S : Nat → Bool) (D : Nat → ByteArray) : Prop :=
  ∀ i, i < n → w.cell? ⟨B, i, none⟩ = some (.pointer (some ⟨p i, 0, none⟩)) ∧ w.cell? ⟨p i, 5, none⟩ = some (.bool (E i)) ∧ w.cell? ⟨p i, 6, none⟩ = some (.string (D i)) ∧ w.cell? ⟨p i, 7, none⟩ = some (.bool (S i))

theorem Logs.later {w w' : World} {B n : Nat} {p : Nat → Nat} {E S : Nat → Bool} {D : Nat → ByteArray} (h : Logs w B n p E S D) (hb : Below w.heap.size w w') : Logs w' B n p E S D := fun i hi => by
  obtain ⟨a, b, c, d⟩ := h i hi
  exact ⟨cell_later hb a, cell_later hb b, cell_later hb c, cell_later hb d⟩

set_option maxRecDepth 100000 in
set_option maxHeartbeats 4000000 in
theorem converge_any (B n cap : Nat) (p : Nat → Nat) (E S : Nat → Bool) (D : Nat → ByteArray) (w : World) (hn : n ≤ 65536) (hL : Logs w B n p E S D) :
    Calls Try.prog 21 #[.slice (some ⟨B, 0, none⟩) n cap] w fun e w' => e = .returned (.string (verdict (mem E S D n))) ∧ Below w.heap.size w w' := by
  obtain ⟨i0, hi, hz0, hz1, hz2⟩ := info_parts Try.info9
  go_enter Try.func21, Try.ntmps21
  go_wp2
  go_loopw [3, 10] (fun sv si wr => ∃ (k m : Nat), k ≤ n ∧ si = .int .i64 k ∧ Hid (m = (mem E S D k).length) ∧ m ≤ k ∧ wr.ownsRow w.heap.size 9 1 sv m ((mem E S D k).map Value.string) ∧ Hid (anyGone (mem E S D k) = false) ∧ Below w.heap.size w wr)
    (fun _ si _ => n - (intOf si).toNat)
  case atStart => exact ⟨0, 0, Nat.zero_le _, rfl, rfl, Nat.le_refl _, World.ownsRow_nil _ _ _ _, rfl, Below.refl _ _⟩
  case round =>
    obtain ⟨k, m, hk, rfl, HM, hmk, hown, HA, hnx⟩ := hrel
    by_cases hlt : k < n
    · obtain ⟨g0, g5, g6, g7⟩ := (hL.later hnx) k hlt
      clear hL
      cases hm : (E k && !S k)
      · have HS : Hid (mem E S D (k + 1) = mem E S D k) := mem_no hm
        go_wp2_with (go_at_call 24; refine (ended_any (p k) (E k) (S k) wr g5 g7).mono ?_; rintro e w' ⟨rfl, rfl⟩)
        go_roundw
        case rel => exact ⟨k + 1, m, by omega, by go_num, by rw [HS.out]; exact HM, by omega, by rw [HS.out]; exact hown, by rw [HS.out]; exact HA, hnx⟩
        case measure => simp [intOf]; omega
      · have HS : Hid (mem E S D (k + 1) = mem E S D k ++ [D k]) := mem_yes hm
        by_cases hd : (D k).toList.isEmpty = true
        · have HV : Hid (verdict (mem E S D n) = na) := by
            refine verdict_gone ?_
            simp only [anyGone, List.any_eq_true]
            exact ⟨D k, mem_mono E S D (k + 1) n (by omega) _ (by rw [HS.out]; simp), hd⟩
          go_wp2_with (go_at_call 24; refine (ended_any (p k) (E k) (S k) wr g5 g7).mono ?_; rintro e w' ⟨rfl, rfl⟩)
          go_ret
          exact ⟨ret_str HV.out, hnx⟩
        · have hd : (D k).toList.isEmpty = false := by simpa using hd
          have HG : Hid (anyGone (mem E S D (k + 1)) = false) := by
            rw [HS.out, anyGone_snoc, HA.out]
            exact hd
          go_wp2_with (first
            | (go_at_call 24; refine (ended_any (p k) (E k) (S k) wr g5 g7).mono ?_; rintro e w' ⟨rfl, rfl⟩)
            | (at_builtin; refine wpList_append_own _ rfl (.tmp 22) (.tmp 27) 23 rfl w.heap.size 9 i0 (.string ⟨#[]⟩) 1 16 Try.underlying23 hi hz0 hz1 hz2 rfl (by decide) _ m _ rfl (hown.alloc _) ⟨wr.heap.size, 0, none⟩ 1 1 [.string (D k)] rfl rfl (cell_one_new _ _ _) (one_str _) (by unfold maxLen; omega) (by omega) (by have := hnx.size; simp; omega) ?_; intro v' w1 hown1 hgrow _))
          go_roundw
          case rel => exact ⟨k + 1, m + 1, by omega, by go_num, by rw [HS.out, List.length_append, ← HM.out]; exact rfl, by omega, by rw [HS.out, List.map_append]; exact hown1, HG, (hnx.alloc hnx.size _).grown hgrow (by have := hnx.size; simp; omega) (fun q hq => own_ge hown q hq)⟩
          case measure => simp [intOf]; omega
    · have hke : k = n := by omega
      subst hke
      clear hL
      obtain ⟨ds, hds⟩ : ∃ ds, ds = mem E S D k := ⟨_, rfl⟩
      have HDS : Hid (ds = mem E S D k) := hds
      rw [← hds] at hown
      have HM' : Hid (m = ds.length) := by rw [HDS.out]; exact HM
      have HA' : Hid (anyGone ds = false) := by rw [HDS.out]; exact HA
      clear HM HA hds
      by_cases hm0 : m = 0
      · subst hm0
        obtain ⟨a, cu, rfl⟩ : ∃ a cu, u3 = .slice a 0 cu := by
          rcases hown.2 with ⟨h, _⟩ | ⟨g, cu, cur, h, _⟩
          · exact ⟨_, _, h⟩
          · exact ⟨_, _, h⟩
        have HV : Hid (verdict (mem E S D k) = na) := by
          have : ds = [] := List.eq_nil_of_length_eq_zero HM'.out.symm
          rw [← HDS.out, this]
          exact verdict_empty
        clear hown
        go_wp2
        go_ret
        exact ⟨ret_str HV.out, hnx⟩
      · obtain ⟨q, rfl⟩ : ∃ q, m = q + 1 := ⟨m - 1, by omega⟩
        obtain ⟨g, cu, rfl, hgb, hqc⟩ : ∃ g cu, u3 = .slice (some ⟨g, 0, none⟩) (q + 1) cu ∧ w.heap.size ≤ g ∧ q + 1 ≤ cu := by
          rcases hown.2 with ⟨_, h⟩ | ⟨g, cu, cur, h, hb, _, hc, _⟩
          · omega
          · exact ⟨g, cu, h, hb, hc⟩
        have hcell : ∀ i, i < q + 1 → wr.cell? ⟨g, i, none⟩ = some (.string (ds.getD i ByteArray.empty)) := fun i hi => by
          have hil : i < ds.length := by rw [← HM'.out]; exact hi
          rw [hown.cellAt i (by omega), List.getElem?_map, List.getElem?_eq_getElem hil, List.getD_eq_getElem?_getD, List.getElem?_eq_getElem hil]
          rfl
        have HNE : Hid (ds ≠ []) := fun e => by have := HM'.out; rw [e] at this; simp at this
        have c0 := hcell 0 (by omega)
        clear hown
        by_cases hq : q = 0
        · subst hq
          have HV : Hid (verdict (mem E S D k) = yes) := by
            rw [← HDS.out]
            refine verdict_yes HNE.out HA'.out ?_
            match ds, HM'.out with
            | [d], _ => exact allEq_one d
          clear hcell
          by_cases hcu : cu = 1
          · subst hcu
            go_wp2
            refine wp_loop_rounds 1 ?_
            rw [rounds_succ]
            go_wp2
            go_ret
            exact ⟨ret_str HV.out, hnx⟩
          · have hcu2 : 1 < cu := by omega
            go_wp2
            refine wp_loop_rounds 1 ?_
            rw [rounds_succ]
            go_wp2
            go_ret
            exact ⟨ret_str HV.out, hnx⟩
        · have hcu2 : 1 < cu := by omega
          go_wp2
          obtain ⟨d0, hd0⟩ : ∃ d0, d0 = ds.getD 0 ByteArray.empty := ⟨_, rfl⟩
          rw [← hd0] at c0
          have HD0 : Hid (d0 = ds.getD 0 ByteArray.empty) := hd0
          clear hd0
          go_loop [36] (fun si => ∃ j : Nat, j ≤ q ∧ si = .int .i64 j ∧ Hid (∀ i, i ≤ j → same (ds.getD i ByteArray.empty) (ds.getD 0 ByteArray.empty) = true)) (fun si => q - (intOf si).toNat)
          case atStart => exact ⟨0, Nat.zero_le _, rfl, fun i hi => by have : i = 0 := by omega
                                                                       subst this; exact same_refl _⟩
          case round =>
            obtain ⟨j, hj, rfl, HR⟩ := hrel
            by_cases hjq : j < q
            · obtain ⟨dj, hdj⟩ : ∃ dj, dj = ds.getD (j + 1) ByteArray.empty := ⟨_, rfl⟩
              have c1 : wr.cell? ⟨g, 1 + j, none⟩ = some (.string dj) := by rw [hdj, Nat.add_comm]; exact hcell (j + 1) (by omega)
              have HDJ : Hid (dj = ds.getD (j + 1) ByteArray.empty) := hdj
              clear hdj hcell
              cases hs : (dj.toList == d0.toList)
              · have HV : Hid (verdict (mem E S D k) = no) := by
                  rw [← HDS.out]
                  refine verdict_no HNE.out HA'.out ?_
                  cases hc : allEq ds
                  · rfl
                  · rw [allEq_iff] at hc
                    have hl : j + 1 < ds.length := by rw [← HM'.out]; omega
                    have := hc dj (by rw [HDJ.out, List.getD_eq_getElem?_getD, List.getElem?_eq_getElem hl]; exact List.getElem_mem hl)
                    rw [first_getD, ← HD0.out] at this
                    unfold same at this
                    rw [hs] at this
                    cases this
                clear HR
                go_wp2
                go_ret
                exact ⟨ret_str HV.out, hnx⟩
              · have HN : Hid (∀ i, i ≤ j + 1 → same (ds.getD i ByteArray.empty) (ds.getD 0 ByteArray.empty) = true) := fun i hi => by
                  by_cases e : i = j + 1
                  · subst e
                    rw [← HDJ.out, ← HD0.out]
                    exact hs
                  · exact HR.out i (by omega)
                clear HR
                go_wp2
                go_round
                case rel => exact ⟨j + 1, by omega, by go_num, HN⟩
                case measure => simp [intOf]; omega
            · have HV : Hid (verdict (mem E S D k) = yes) := by
                rw [← HDS.out]
                refine verdict_yes HNE.out HA'.out ?_
                rw [allEq_iff]
                intro d hd
                obtain ⟨i, hi, rfl⟩ := List.mem_iff_getElem.1 hd
                have := HR.out i (by have := HM'.out; omega)
                rw [List.getD_eq_getElem?_getD, List.getElem?_eq_getElem hi] at this
                rw [first_getD]
                exact this
              clear HR hcell
              go_wp2
              go_ret
              exact ⟨ret_str HV.out, hnx⟩

end Go.Proofs.Qxb6601336a
