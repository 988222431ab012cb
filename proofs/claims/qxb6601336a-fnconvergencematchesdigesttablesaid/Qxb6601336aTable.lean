/-
  FnConvergenceMatchesDigestTable, WALKED.
-/
import Derived.Test.Qxb6601336aZz
import Derived.WalkSmall
namespace Go.Proofs.Qxb6601336a
open Go.RowKit Cvg

theorem na_list : (na.toList == [110, 47, 97]) = true := by rw [ByteArray.toList_eq]; rfl
theorem no_list : (no.toList == [110, 111]) = true := by rw [ByteArray.toList_eq]; rfl
theorem yes_list : (yes.toList == [121, 101, 115]) = true := by rw [ByteArray.toList_eq]; rfl
theorem bstep {a b c : World} (h : Below a.heap.size a b) (k : Below b.heap.size b c) : Below a.heap.size a c := h.trans (k.mono h.size)

set_option maxRecDepth 100000 in
set_option maxHeartbeats 8000000 in
theorem table_walk (a0 a1 a2 : Option Addr) (n0 c0 n1 c1 n2 c2 : Nat) (E S : Nat → Bool) (D : Nat → ByteArray) (w : World) (m0 : n0 ≤ maxLen) (m1 : n1 ≤ maxLen) (m2 : n2 ≤ maxLen) (md : ∀ i, i < n2 → (D i).size ≤ maxLen)
    (z0 : a0 = none → n0 = 0 ∧ c0 = 0) (z1 : a1 = none → n1 = 0 ∧ c1 = 0) (z2 : a2 = none → n2 = 0 ∧ c2 = 0)
    (hE : AtV w a0 n0 fun i => .bool (E i)) (hS : AtV w a1 n1 fun i => .bool (S i)) (hD : AtV w a2 n2 fun i => .string (D i)) :
    Calls Try.prog 3 #[.slice a0 n0 c0, .slice a1 n1 c1, .slice a2 n2 c2] w fun e w' => e = .returned (.bool true) ∧ Below w.heap.size w w' := by
  have hby := bytes_any a0 a1 a2 n0 c0 n1 c1 n2 c2 D w m0 m1 m2 md hD
  clear m0 m1 m2 md
  go_enter Try.func3, Try.ntmps3
  go_wp2_with fail
  refine hby.mono ?_
  rintro e w' ⟨⟨r, rfl, hr⟩, hw⟩
  subst hw
  clear hby
  cases r
  · clear hr hE hS hD z0 z1 z2
    go_wp2
    go_ret
    exact ⟨rfl, Below.refl _ _⟩
  · obtain ⟨l0, l1, l2, ld⟩ := hr rfl
    clear hr
    have LD : Hid (∀ i, i < n2 → (D i).size ≤ 1048576) := ld
    clear ld
    by_cases h0 : (65536 : Int) < (n0 : Int)
    · clear hE hS hD z0 z1 z2
      go_wp2
      go_ret
      exact ⟨rfl, Below.refl _ _⟩
    by_cases h1 : (65536 : Int) < (n1 : Int)
    · clear hE hS hD z0 z1 z2
      go_wp2
      go_ret
      exact ⟨rfl, Below.refl _ _⟩
    by_cases h2 : (65536 : Int) < (n2 : Int)
    · clear hE hS hD z0 z1 z2
      go_wp2
      go_ret
      exact ⟨rfl, Below.refl _ _⟩
    go_wp2
    go_loop [7, 8] (fun sz si => ∃ (k : Nat) (z : Int), k ≤ n2 ∧ si = .int .i64 k ∧ sz = .int .i64 z ∧ 0 ≤ z ∧ z ≤ 1200000) (fun _ si => n2 - (intOf si).toNat)
    case atStart => exact ⟨0, _, Nat.zero_le _, rfl, rfl, by omega, by omega⟩
    case round =>
      obtain ⟨k, z, hk, rfl, rfl, hz0, hz1⟩ := hrel
      by_cases hlt : k < n2
      · obtain ⟨b, off, rfl, _, hc⟩ := hD.resolve_left (by omega)
        have g := hc k hlt
        have gs := LD.out k hlt
        clear hD hc hE hS z0 z1 z2
        by_cases hzs : (1048576 : Int) < z + ((D k).size : Int)
        · go_wp2
          go_ret
          exact ⟨rfl, Below.refl _ _⟩
        · go_wp2
          go_round
          case rel => exact ⟨k + 1, z + ((D k).size : Int), by omega, by go_num, rfl, by omega, by omega⟩
          case measure => simp [intOf]; omega
      · have hke : k = n2 := by omega
        subst hke
        by_cases hzb : (1048576 : Int) < z
        · clear hD hE hS z0 z1 z2
          go_wp2
          go_ret
          exact ⟨rfl, Below.refl _ _⟩
        by_cases e1 : n1 = n0
        · by_cases e2 : k = n0
          · subst e1
            subst e2
            go_wp2_with fail
            refine (copyB_all a0 k c0 E w (by omega) z0 hE).mono ?_
            rintro e w1 ⟨x0, rfl, hE1, b1⟩
            clear z0 hE
            go_wp2_with fail
            refine (copyB_all a1 k c1 S w1 (by omega) z1 (hS.later b1)).mono ?_
            rintro e w2 ⟨x1, rfl, hS2, b2⟩
            clear z1 hS
            go_wp2_with fail
            refine (copyS_all a2 k c2 D w2 (by omega) z2 ((hD.later b1).later b2)).mono ?_
            rintro e w3 ⟨x2, rfl, hD3, b3⟩
            clear z2 hD
            go_wp2_with fail
            refine (zz_any x0 x1 x2 k k k k E S D w3 (by omega) ((hE1.later b2).later b3) (hS2.later b3) hD3).mono ?_
            rintro e w4 ⟨rfl, b4⟩
            have hE4 := ((hE1.later b2).later b3).later b4
            have hS4 := (hS2.later b3).later b4
            have hD4 := hD3.later b4
            have bw : Below w.heap.size w w4 := bstep (bstep (bstep b1 b2) b3) b4
            obtain ⟨G, hG⟩ : ∃ G, G = verdict (mem E S D k) := ⟨_, rfl⟩
            rw [← hG]
            have HG : Hid (G = verdict (mem E S D k)) := hG
            clear hG hE1 hS2 hD3 b1 b2 b3 b4
            go_wp2
            go_loopw [10, 11, 12, 13, 14] (fun s1 s2 s3 s4 s5 wr => ∃ (j m : Nat) (ae ce : Bool) (la : Int), j ≤ k ∧ s5 = .int .i64 j ∧ s1 = .int .i64 m ∧ s2 = .bool ae ∧ s3 = .bool ce ∧ s4 = .int .i64 la ∧
                m ≤ j ∧ Hid (m = (mem E S D j).length) ∧ Hid (ae = anyGone (mem E S D j)) ∧ Hid (ce = allEq (mem E S D j)) ∧ ((Hid (la = -1) ∧ Hid (mem E S D j = [])) ∨ ∃ l : Nat, Hid (la = l) ∧ l < j ∧ Hid (D l ∈ mem E S D j)) ∧ Below w4.heap.size w4 wr)
              (fun _ _ _ _ s5 _ => k - (intOf s5).toNat)
            case atStart => exact ⟨0, 0, false, true, -1, Nat.zero_le _, rfl, rfl, rfl, rfl, rfl, Nat.le_refl _, rfl, rfl, rfl, .inl ⟨rfl, rfl⟩, Below.refl _ _⟩
            case round =>
              obtain ⟨j, m, ae, ce, la, hj, rfl, rfl, rfl, rfl, rfl, hmj, HM, HA, HC, hla, hnx⟩ := hrel
              by_cases hlt2 : j < k
              · obtain ⟨b0, o0, rfl, t0, q0⟩ := hE4.resolve_left (by omega)
                obtain ⟨b1, o1, rfl, t1, q1⟩ := hS4.resolve_left (by omega)
                obtain ⟨b2, o2, rfl, t2, q2⟩ := hD4.resolve_left (by omega)
                have g0 : wr.cell? ⟨b0, o0 + j, none⟩ = some (.bool (E j)) := (hnx.cell (by exact t0)).trans (q0 j hlt2)
                have g1 : wr.cell? ⟨b1, o1 + j, none⟩ = some (.bool (S j)) := (hnx.cell (by exact t1)).trans (q1 j hlt2)
                have g2 : wr.cell? ⟨b2, o2 + j, none⟩ = some (.string (D j)) := (hnx.cell (by exact t2)).trans (q2 j hlt2)
                have qD : ∀ i, i < k → wr.cell? ⟨b2, o2 + i, none⟩ = some (.string (D i)) := fun i hi => (hnx.cell (by exact t2)).trans (q2 i hi)
                clear hE4 hS4 hD4 q0 q1 q2
                cases hEj : E j
                · have hm : (E j && !S j) = false := by rw [hEj]; rfl
                  rw [hEj] at g0
                  clear g1 g2 qD hEj
                  have HS : Hid (mem E S D (j + 1) = mem E S D j) := mem_no hm
                  clear hm
                  go_wp2
                  go_roundw
                  case rel => exact ⟨j + 1, m, ae, ce, la, by omega, by go_num, rfl, rfl, rfl, rfl, by omega, by rw [HS.out]; exact HM, by rw [HS.out]; exact HA, by rw [HS.out]; exact HC, by rw [HS.out]; rcases hla with hl | ⟨l, lx, ly, lz⟩ <;> first | exact .inl hl | exact .inr ⟨l, lx, by omega, lz⟩, hnx⟩
                  case measure => simp [intOf]; omega
                · cases hSj : S j
                  · have hm : (E j && !S j) = true := by rw [hEj, hSj]; rfl
                    rw [hEj] at g0
                    rw [hSj] at g1
                    have HS : Hid (mem E S D (j + 1) = mem E S D j ++ [D j]) := mem_yes hm
                    have HML : Hid (m + 1 = (mem E S D (j + 1)).length) := by rw [HS.out, List.length_append, ← HM.out]; exact rfl
                    have HDJ : Hid (D j ∈ mem E S D (j + 1)) := by rw [HS.out]; exact List.mem_append_right _ (List.mem_singleton.2 rfl)
                    clear hm hEj hSj HM
                    rcases hla with ⟨HLA, HN⟩ | ⟨l, HLA, hlj, HD⟩
                    · by_cases hz : (((D j).size : Int) == 0) = true
                      · have hgn : gone (D j) = true := by rw [gone_size]; simpa using hz
                        clear qD
                        have la1 := HLA.out
                        subst la1
                        have HCE : Hid (ce = allEq (mem E S D (j + 1))) := by rw [HS.out, HN.out]; exact HC.out.trans (by rw [HN.out]; exact (allEq_one _).symm)
                        have HAE : Hid (true = anyGone (mem E S D (j + 1))) := by rw [HS.out, anyGone_snoc, hgn]; simp [Hid]
                        clear HC HA hgn
                        go_wp2_with fail
                        go_quiet (fail)
                        go_wp2
                        go_roundw
                        case rel => exact ⟨j + 1, m + 1, true, ce, (j : Int), by omega, by go_num, by go_num, rfl, rfl, rfl, by omega, HML, HAE, HCE, .inr ⟨j, rfl, by omega, HDJ⟩, below_drewN hnx _⟩
                        case measure => simp [intOf]; omega
                      · have hz : (((D j).size : Int) == 0) = false := by simpa using hz
                        have hgn : gone (D j) = false := by rw [gone_size]; simpa using hz
                        clear qD
                        have la1 := HLA.out
                        subst la1
                        have HCE : Hid (ce = allEq (mem E S D (j + 1))) := by rw [HS.out, HN.out]; exact HC.out.trans (by rw [HN.out]; exact (allEq_one _).symm)
                        have HAE : Hid (ae = anyGone (mem E S D (j + 1))) := by rw [HS.out, anyGone_snoc, hgn, Bool.or_false]; exact HA
                        clear HC HA hgn
                        go_wp2_with fail
                        go_quiet (fail)
                        go_wp2
                        go_roundw
                        case rel => exact ⟨j + 1, m + 1, ae, ce, (j : Int), by omega, by go_num, by go_num, rfl, rfl, rfl, by omega, HML, HAE, HCE, .inr ⟨j, rfl, by omega, HDJ⟩, below_drewN hnx _⟩
                        case measure => simp [intOf]; omega
                    · have la1 := HLA.out
                      subst la1
                      have g3 := qD l (by omega)
                      have i0 : (0 : Int) ≤ (l : Int) := Int.natCast_nonneg _
                      have i1 : (l : Int) < (k : Int) := by omega
                      have i2 : (j : Int) < (k : Int) := by omega
                      clear qD
                      cases hs : same (D j) (D l)
                      · have hs2 : ((D j).toList == (D l).toList) = false := hs
                        by_cases hz : (((D j).size : Int) == 0) = true
                        · have hgn : gone (D j) = true := by rw [gone_size]; simpa using hz
                          have HCE : Hid (false = allEq (mem E S D (j + 1))) := by rw [HS.out]; exact (allEq_break HD.out hs).symm
                          have HAE : Hid (true = anyGone (mem E S D (j + 1))) := by rw [HS.out, anyGone_snoc, hgn]; simp [Hid]
                          clear HC HA hgn
                          go_wp2_with fail
                          go_quiet (fail)
                          go_wp2
                          go_roundw
                          case rel => exact ⟨j + 1, m + 1, true, false, (j : Int), by omega, by go_num, by go_num, rfl, rfl, rfl, by omega, HML, HAE, HCE, .inr ⟨j, rfl, by omega, HDJ⟩, below_drewN hnx _⟩
                          case measure => simp [intOf]; omega
                        · have hz : (((D j).size : Int) == 0) = false := by simpa using hz
                          have hgn : gone (D j) = false := by rw [gone_size]; simpa using hz
                          have HCE : Hid (false = allEq (mem E S D (j + 1))) := by rw [HS.out]; exact (allEq_break HD.out hs).symm
                          have HAE : Hid (ae = anyGone (mem E S D (j + 1))) := by rw [HS.out, anyGone_snoc, hgn, Bool.or_false]; exact HA
                          clear HC HA hgn
                          go_wp2_with fail
                          go_quiet (fail)
                          go_wp2
                          go_roundw
                          case rel => exact ⟨j + 1, m + 1, ae, false, (j : Int), by omega, by go_num, by go_num, rfl, rfl, rfl, by omega, HML, HAE, HCE, .inr ⟨j, rfl, by omega, HDJ⟩, below_drewN hnx _⟩
                          case measure => simp [intOf]; omega
                      · have hs2 : ((D j).toList == (D l).toList) = true := hs
                        by_cases hz : (((D j).size : Int) == 0) = true
                        · have hgn : gone (D j) = true := by rw [gone_size]; simpa using hz
                          have HCE : Hid (ce = allEq (mem E S D (j + 1))) := by rw [HS.out, allEq_keep HD.out hs]; exact HC
                          have HAE : Hid (true = anyGone (mem E S D (j + 1))) := by rw [HS.out, anyGone_snoc, hgn]; simp [Hid]
                          clear HC HA hgn
                          go_wp2_with fail
                          go_quiet (fail)
                          go_wp2
                          go_roundw
                          case rel => exact ⟨j + 1, m + 1, true, ce, (j : Int), by omega, by go_num, by go_num, rfl, rfl, rfl, by omega, HML, HAE, HCE, .inr ⟨j, rfl, by omega, HDJ⟩, below_drewN hnx _⟩
                          case measure => simp [intOf]; omega
                        · have hz : (((D j).size : Int) == 0) = false := by simpa using hz
                          have hgn : gone (D j) = false := by rw [gone_size]; simpa using hz
                          have HCE : Hid (ce = allEq (mem E S D (j + 1))) := by rw [HS.out, allEq_keep HD.out hs]; exact HC
                          have HAE : Hid (ae = anyGone (mem E S D (j + 1))) := by rw [HS.out, anyGone_snoc, hgn, Bool.or_false]; exact HA
                          clear HC HA hgn
                          go_wp2_with fail
                          go_quiet (fail)
                          go_wp2
                          go_roundw
                          case rel => exact ⟨j + 1, m + 1, ae, ce, (j : Int), by omega, by go_num, by go_num, rfl, rfl, rfl, by omega, HML, HAE, HCE, .inr ⟨j, rfl, by omega, HDJ⟩, below_drewN hnx _⟩
                          case measure => simp [intOf]; omega
                  · have hm : (E j && !S j) = false := by rw [hEj, hSj]; rfl
                    rw [hEj] at g0
                    rw [hSj] at g1
                    clear g2 qD hEj hSj
                    have HS : Hid (mem E S D (j + 1) = mem E S D j) := mem_no hm
                    clear hm
                    go_wp2
                    go_roundw
                    case rel => exact ⟨j + 1, m, ae, ce, la, by omega, by go_num, rfl, rfl, rfl, rfl, by omega, by rw [HS.out]; exact HM, by rw [HS.out]; exact HA, by rw [HS.out]; exact HC, by rw [HS.out]; rcases hla with hl | ⟨l, lx, ly, lz⟩ <;> first | exact .inl hl | exact .inr ⟨l, lx, by omega, lz⟩, hnx⟩
                    case measure => simp [intOf]; omega
              · have hje : j = k := by omega
                subst hje
                have bend : Below w.heap.size w wr := bstep bw hnx
                clear hE4 hS4 hD4 hla hnx bw LD
                cases hm0 : ((m : Int) == 0)
                · have HNE : Hid (mem E S D j ≠ []) := fun e => by
                    have := HM.out
                    rw [e] at this
                    simp at hm0 this
                    exact hm0 this
                  cases ae
                  · cases ce
                    · have hg : (G.toList == [110, 111]) = true := by
                        rw [HG.out, verdict_no HNE.out HA.out.symm HC.out.symm]; exact no_list
                      go_wp2
                      go_ret
                      exact ⟨rfl, bend⟩
                    · have hg : (G.toList == [121, 101, 115]) = true := by
                        rw [HG.out, verdict_yes HNE.out HA.out.symm HC.out.symm]; exact yes_list
                      go_wp2
                      go_ret
                      exact ⟨rfl, bend⟩
                  · have hg : (G.toList == [110, 47, 97]) = true := by
                      rw [HG.out, verdict_gone HA.out.symm]; exact na_list
                    go_wp2
                    go_ret
                    exact ⟨rfl, bend⟩
                · have hg : (G.toList == [110, 47, 97]) = true := by
                    have : mem E S D j = [] := List.eq_nil_of_length_eq_zero (by rw [← HM.out]; simpa using hm0)
                    rw [HG.out, this, verdict_empty]; exact na_list
                  go_wp2
                  go_ret
                  exact ⟨rfl, bend⟩
          · have f2 : ((k : Int) == (n0 : Int)) = false := by simp; omega
            subst e1
            clear hD hE hS z0 z1 z2 e2
            go_wp2
            go_ret
            exact ⟨rfl, Below.refl _ _⟩
        · have f1 : ((n1 : Int) == (n0 : Int)) = false := by simp; omega
          clear hD hE hS z0 z1 z2 e1
          go_wp2
          go_ret
          exact ⟨rfl, Below.refl _ _⟩

end Go.Proofs.Qxb6601336a
