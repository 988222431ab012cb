/-
  FnGB18030EncodedAcceptedTruncatedRefused, WALKED.
-/
import Derived.Test.Qxb6600037aConcat
namespace Go.Proofs.Qxb6600037a
open Go.RowKit Go.WideShapes Gb

theorem bstep {a b c : World} (h : Below a.heap.size a b) (k : Below b.heap.size b c) : Below a.heap.size a c := h.trans (k.mono h.size)

/-- A value that owns a row of bytes, as a slice. -/
theorem own_form {w : World} {base n : Nat} {v : Value} {E : List Int} (h : w.ownsRow base 5 1 v n (E.map (Value.int .u8))) :
    ∃ a cap, v = .slice a n cap ∧ At .u8 w a n E ∧ n ≤ cap := by
  have hl : E.length = n := by have := h.1; simpa using this
  rcases h.2 with ⟨rfl, rfl⟩ | ⟨g, cap, cur, rfl, hb, hg, hnc, _⟩
  · exact ⟨none, 0, rfl, ⟨hl, .inl rfl⟩, Nat.le_refl _⟩
  · exact ⟨_, cap, rfl, at_of_owns h, hnc⟩

theorem size_new (w : World) (o : Obj) : (w.alloc o).heap.size = w.heap.size + 1 := by simp

/-- One new byte. -/
theorem at_one_new (w : World) (s : Int) : At .u8 (w.alloc (.cells #[.int .u8 s] 5)) (some ⟨w.heap.size, 0, none⟩) 1 [s] := by
  refine ⟨rfl, .inr ⟨_, _, rfl, by simp, fun i hi => ?_⟩⟩
  have : i = 0 := by omega
  subst this
  rw [World.cell?_alloc_at _ _ _ _ rfl]
  rfl

/-- A slice's head. -/
theorem At.take {kd : IntKind} {w : World} {a : Option Addr} {n k : Nat} {zs : List Int} (h : At kd w a n zs) (hk : k ≤ n) : At kd w a k (zs.take k) := by
  refine ⟨by rw [List.length_take, h.1]; omega, ?_⟩
  by_cases h0 : k = 0
  · exact .inl h0
  rcases h.2 with h' | ⟨b, off, e, hl, hc⟩
  · omega
  · refine .inr ⟨b, off, e, hl, fun i hi => ?_⟩
    rw [List.getD_eq_getElem?_getD, List.getElem?_take, if_pos hi, ← List.getD_eq_getElem?_getD]
    exact hc i (by omega)

set_option maxRecDepth 100000 in
set_option maxHeartbeats 4000000 in
theorem encoded_walk (a0 : Option Addr) (len0 cap0 : Nat) (z0 : List Int) (x : Int) (cut : Int) (w : World) (hx0 : 0 ≤ x) (hx1 : x < 4294967296) (hcut0 : 0 ≤ cut) (hcut1 : cut ≤ 255) (hm : len0 ≤ maxLen)
    (hzz : ∀ z ∈ z0, 0 ≤ z ∧ z < 4294967296)
    (hin : a0 = none ∧ len0 = 0 ∧ cap0 = 0 ∨ ∃ x, a0 = some x ∧ len0 ≤ z0.length ∧ (len0 = 0 ∨ (x.spot = none ∧ x.block < w.heap.size)) ∧ ∀ i, i < len0 → w.cell? ⟨x.block, x.off + i, none⟩ = some (.int .u32 (z0.getD i 0))) :
    Calls Try.prog 7 #[.slice a0 len0 cap0, .int .u32 x, .int .u8 cut] w fun e w' => e = .returned (.bool true) ∧ Below w.heap.size w w' := by
  unfold maxLen at hm
  by_cases hbig : (131072 : Int) < (len0 : Int)
  · by_cases hb2 : (1048576 : Int) < (len0 : Int)
    all_goals
      go_enter Try.func7, Try.ntmps7
      go_wp2
      go_ret
      exact ⟨rfl, Below.refl _ _⟩
  · have hc := clone32_all a0 len0 cap0 z0 w (by omega) hin
    have hts : ∀ z ∈ z0.take len0, 0 ≤ z ∧ z < 4294967296 := fun z hz => hzz z (List.mem_of_mem_take hz)
    obtain ⟨ts, hts0⟩ : ∃ ts, ts = z0.take len0 := ⟨_, rfl⟩
    rw [← hts0] at hc hts
    have HT : Hid (∀ z ∈ ts, 0 ≤ z ∧ z < 4294967296) := hts
    clear hin hts0 hts hzz
    go_enter Try.func7, Try.ntmps7
    go_wp2_with (go_at_call 17; go_in)
    refine hc.mono ?_
    rintro e w1 ⟨a1, rfl, h1, b1⟩
    clear hc
    go_wp2
    go_loopw [7, 8] (fun se si wr => ∃ (k n : Nat), k ≤ len0 ∧ si = .int .i64 k ∧ Hid (n = (encAll (ts.take k)).length) ∧ wr.ownsRow w1.heap.size 5 1 se n ((encAll (ts.take k)).map (Value.int .u8)) ∧ Below w1.heap.size w1 wr)
      (fun _ si _ => len0 - (intOf si).toNat)
    case atStart => exact ⟨0, 0, Nat.zero_le _, rfl, rfl, World.ownsRow_nil _ _ _ _, Below.refl _ _⟩
    case round =>
      obtain ⟨k, n, hk, rfl, HN, hown, hnx⟩ := hrel
      have hnb : n ≤ 4 * k := by
        rw [HN.out]
        refine Nat.le_trans (encAll_length _ fun z hz => (HT.out z (List.mem_of_mem_take hz)).1) ?_
        have := List.length_take_le k ts
        omega
      by_cases hlt : k < len0
      · obtain ⟨b, off, rfl, hbl, hcell⟩ := h1.2.resolve_left (by omega)
        have hkl : k < ts.length := by rw [h1.1]; exact hlt
        have g : wr.cell? ⟨b, off + k, none⟩ = some (.int .u32 (ts.getD k 0)) := (hnx.cell (by exact hbl)).trans (hcell k hlt)
        obtain ⟨t, ht⟩ : ∃ t, t = ts.getD k 0 := ⟨_, rfl⟩
        rw [← ht] at g
        have hmem : t ∈ ts := by
          rw [ht, List.getD_eq_getElem?_getD, List.getElem?_eq_getElem hkl]
          exact List.getElem_mem hkl
        have hb0 := (HT.out t hmem).1
        have hb1 := (HT.out t hmem).2
        have HS : Hid (encAll (ts.take (k + 1)) = encAll (ts.take k) ++ enc t) := by
          have e := take_snoc ts k hkl
          rw [← ht] at e
          rw [e]
          exact encAll_snoc _ _
        clear hcell ht hmem
        clear h1
        go_wp2_with (go_at_call 19; refine (enc_any t hb0 hb1 _ n w1.heap.size _ wr hown hnx.size (by omega)).mono ?_; rintro e w2 ⟨v2, rfl, hown2, b2⟩)
        go_roundw
        case rel => exact ⟨k + 1, n + (enc t).length, by omega, by go_num, by rw [HS.out, List.length_append, ← HN.out]; exact rfl, by rw [HS.out, List.map_append]; exact hown2, hnx.trans b2⟩
        case measure => simp [intOf]; omega
      · have hke : k = len0 := by omega
        subst hke
        have hpos : ∀ z ∈ ts, 0 ≤ z := fun z hz => (HT.out z hz).1
        rw [List.take_of_length_le (by rw [h1.1]; exact Nat.le_refl _)] at hown
        obtain ⟨E, hE0⟩ : ∃ E, E = encAll ts := ⟨_, rfl⟩
        rw [← hE0] at hown
        obtain ⟨T, hT0⟩ : ∃ T, T = enc x := ⟨_, rfl⟩
        obtain ⟨nt, hnt⟩ : ∃ nt, nt = T.length := ⟨_, rfl⟩
        have HG0 : Hid (∀ X, gb (E ++ X) = gb X) := fun X => by rw [hE0]; exact gb_encAll ts hpos X
        have HG1 : Hid (gb E = true) := by have := HG0.out []; rw [List.append_nil] at this; exact this
        have HG2 : Hid (gb (E ++ T) = true) := by
          have := gb_enc x hx0 []
          rw [List.append_nil, ← hT0] at this
          exact (HG0.out T).trans this
        have HG3 : Hid (∀ s : Int, s = 128 ∨ s = 255 → gb (E ++ [s] ++ T) = false) := fun s hs => by
          rw [List.append_assoc, HG0.out]
          exact gb_stray s hs T
        have HG4 : Hid (∀ k : Nat, 1 ≤ k → k < nt → gb (E ++ T.take k) = false) := fun k h1 h2 => by
          rw [HG0.out, hT0]
          exact gb_cut x hx0 k h1 (by rw [← hT0, ← hnt]; exact h2)
        have hnt3 : nt = 1 ∨ nt = 2 ∨ nt = 4 := by
          rcases enc_cases x hx0 with ⟨a, e, _⟩ | ⟨a, b, e, _⟩ | ⟨a, b, c, d, e, _⟩ <;> rw [hnt, hT0, e] <;> simp
        have HE := fun base xs v n w => enc_any x hx0 hx1 v n base xs w
        unfold Left at HE
        rw [← hT0, ← hnt] at HE
        obtain ⟨ea, ec, rfl, hE, hec⟩ := own_form hown
        have bw : Below w.heap.size w wr := bstep b1 hnx
        clear hown hpos hE0 hT0 hnt HT HN h1 b1 hnx HG0
        go_wp2_with fail
        refine (is_all ea n ec E wr hE (by omega) hec).mono ?_
        rintro e w' ⟨rfl, rfl⟩
        rw [HG1.out]
        clear HG1
        go_wp2_with fail
        refine (HE wr.heap.size [] _ 0 wr (World.ownsRow_nil _ _ _ _) (Nat.le_refl _) (by omega)).mono ?_
        rintro e w3 ⟨v3, rfl, hown3, b3⟩
        rw [Nat.zero_add, List.nil_append] at hown3
        obtain ⟨ta, tc, rfl, hT, htc⟩ := own_form hown3
        clear hown3 HE
        go_wp2_with fail
        refine (concat_any ea ta n ec nt tc E T w3 (hE.later b3) hT (by omega) (by omega)).mono ?_
        rintro e w4 ⟨rfl, h4, b4⟩
        go_wp2_with fail
        refine (is_all _ (n + nt) (n + nt) _ w4 h4 (by omega) (Nat.le_refl _)).mono ?_
        rintro e w' ⟨rfl, rfl⟩
        rw [HG2.out]
        have bw4 : Below w.heap.size w w4 := bstep (bstep bw b3) b4
        clear HG2 h4 bw
        rcases hnt3 with rfl | rfl | rfl
        · -- one byte: nothing is cut
          clear HG4
          cases hs : (cut % 2 == 0)
          · go_wp2_with fail
            have hS := at_one_new w4 255
            have bS : Below w4.heap.size w4 (w4.alloc (.cells #[.int .u8 255] 5)) := (Below.refl _ _).alloc (Nat.le_refl _) _
            refine (concat_any ea (some ⟨w4.heap.size, 0, none⟩) n ec 1 1 E [255] _ (((hE.later b3).later b4).later bS) hS (by omega) (by omega)).mono ?_
            rintro e w7 ⟨rfl, h7, b7⟩
            rw [size_new] at h7
            go_wp2_with fail
            refine (concat_any _ ta (n + 1) (n + 1) 1 tc (E ++ [255]) T w7 h7 (((hT.later b4).later bS).later b7) (by omega) (by omega)).mono ?_
            rintro e w8 ⟨rfl, h8, b8⟩
            go_wp2_with fail
            refine (is_all _ (n + 1 + 1) (n + 1 + 1) _ w8 h8 (by omega) (Nat.le_refl _)).mono ?_
            rintro e w' ⟨rfl, rfl⟩
            rw [HG3.out 255 (by omega)]
            go_wp2
            go_ret
            exact ⟨rfl, bstep (bstep (bstep bw4 bS) b7) b8⟩
          · go_wp2_with fail
            have hS := at_one_new w4 128
            have bS : Below w4.heap.size w4 (w4.alloc (.cells #[.int .u8 128] 5)) := (Below.refl _ _).alloc (Nat.le_refl _) _
            refine (concat_any ea (some ⟨w4.heap.size, 0, none⟩) n ec 1 1 E [128] _ (((hE.later b3).later b4).later bS) hS (by omega) (by omega)).mono ?_
            rintro e w7 ⟨rfl, h7, b7⟩
            rw [size_new] at h7
            go_wp2_with fail
            refine (concat_any _ ta (n + 1) (n + 1) 1 tc (E ++ [128]) T w7 h7 (((hT.later b4).later bS).later b7) (by omega) (by omega)).mono ?_
            rintro e w8 ⟨rfl, h8, b8⟩
            go_wp2_with fail
            refine (is_all _ (n + 1 + 1) (n + 1 + 1) _ w8 h8 (by omega) (Nat.le_refl _)).mono ?_
            rintro e w' ⟨rfl, rfl⟩
            rw [HG3.out 128 (by omega)]
            go_wp2
            go_ret
            exact ⟨rfl, bstep (bstep (bstep bw4 bS) b7) b8⟩
        · -- two bytes: cut behind the first
          go_wp2_with fail
          refine (concat_any ea ta n ec 1 tc E (T.take 1) w4 ((hE.later b3).later b4) ((hT.later b4).take (by omega)) (by omega) (by omega)).mono ?_
          rintro e w5 ⟨rfl, h5, b5⟩
          go_wp2_with fail
          refine (is_all _ (n + 1) (n + 1) _ w5 h5 (by omega) (Nat.le_refl _)).mono ?_
          rintro e w' ⟨rfl, rfl⟩
          rw [HG4.out 1 (by omega) (by omega)]
          cases hs : (cut % 2 == 0)
          · go_wp2_with fail
            have hS := at_one_new w5 255
            have bS : Below w5.heap.size w5 (w5.alloc (.cells #[.int .u8 255] 5)) := (Below.refl _ _).alloc (Nat.le_refl _) _
            refine (concat_any ea (some ⟨w5.heap.size, 0, none⟩) n ec 1 1 E [255] _ ((((hE.later b3).later b4).later b5).later bS) hS (by omega) (by omega)).mono ?_
            rintro e w7 ⟨rfl, h7, b7⟩
            rw [size_new] at h7
            go_wp2_with fail
            refine (concat_any _ ta (n + 1) (n + 1) 2 tc (E ++ [255]) T w7 h7 ((((hT.later b4).later b5).later bS).later b7) (by omega) (by omega)).mono ?_
            rintro e w8 ⟨rfl, h8, b8⟩
            go_wp2_with fail
            refine (is_all _ (n + 1 + 2) (n + 1 + 2) _ w8 h8 (by omega) (Nat.le_refl _)).mono ?_
            rintro e w' ⟨rfl, rfl⟩
            rw [HG3.out 255 (by omega)]
            go_wp2
            go_ret
            exact ⟨rfl, bstep (bstep (bstep (bstep bw4 b5) bS) b7) b8⟩
          · go_wp2_with fail
            have hS := at_one_new w5 128
            have bS : Below w5.heap.size w5 (w5.alloc (.cells #[.int .u8 128] 5)) := (Below.refl _ _).alloc (Nat.le_refl _) _
            refine (concat_any ea (some ⟨w5.heap.size, 0, none⟩) n ec 1 1 E [128] _ ((((hE.later b3).later b4).later b5).later bS) hS (by omega) (by omega)).mono ?_
            rintro e w7 ⟨rfl, h7, b7⟩
            rw [size_new] at h7
            go_wp2_with fail
            refine (concat_any _ ta (n + 1) (n + 1) 2 tc (E ++ [128]) T w7 h7 ((((hT.later b4).later b5).later bS).later b7) (by omega) (by omega)).mono ?_
            rintro e w8 ⟨rfl, h8, b8⟩
            go_wp2_with fail
            refine (is_all _ (n + 1 + 2) (n + 1 + 2) _ w8 h8 (by omega) (Nat.le_refl _)).mono ?_
            rintro e w' ⟨rfl, rfl⟩
            rw [HG3.out 128 (by omega)]
            go_wp2
            go_ret
            exact ⟨rfl, bstep (bstep (bstep (bstep bw4 b5) bS) b7) b8⟩
        · -- four bytes: cut behind the first, second or third
          rcases (show cut % 3 = 0 ∨ cut % 3 = 1 ∨ cut % 3 = 2 by omega) with h3 | h3 | h3
          · go_wp2_with fail
            refine (concat_any ea ta n ec 1 tc E (T.take 1) w4 ((hE.later b3).later b4) ((hT.later b4).take (by omega)) (by omega) (by omega)).mono ?_
            rintro e w5 ⟨rfl, h5, b5⟩
            go_wp2_with fail
            refine (is_all _ (n + 1) (n + 1) _ w5 h5 (by omega) (Nat.le_refl _)).mono ?_
            rintro e w' ⟨rfl, rfl⟩
            rw [HG4.out 1 (by omega) (by omega)]
            cases hs : (cut % 2 == 0)
            · go_wp2_with fail
              have hS := at_one_new w5 255
              have bS : Below w5.heap.size w5 (w5.alloc (.cells #[.int .u8 255] 5)) := (Below.refl _ _).alloc (Nat.le_refl _) _
              refine (concat_any ea (some ⟨w5.heap.size, 0, none⟩) n ec 1 1 E [255] _ ((((hE.later b3).later b4).later b5).later bS) hS (by omega) (by omega)).mono ?_
              rintro e w7 ⟨rfl, h7, b7⟩
              rw [size_new] at h7
              go_wp2_with fail
              refine (concat_any _ ta (n + 1) (n + 1) 4 tc (E ++ [255]) T w7 h7 ((((hT.later b4).later b5).later bS).later b7) (by omega) (by omega)).mono ?_
              rintro e w8 ⟨rfl, h8, b8⟩
              go_wp2_with fail
              refine (is_all _ (n + 1 + 4) (n + 1 + 4) _ w8 h8 (by omega) (Nat.le_refl _)).mono ?_
              rintro e w' ⟨rfl, rfl⟩
              rw [HG3.out 255 (by omega)]
              go_wp2
              go_ret
              exact ⟨rfl, bstep (bstep (bstep (bstep bw4 b5) bS) b7) b8⟩
            · go_wp2_with fail
              have hS := at_one_new w5 128
              have bS : Below w5.heap.size w5 (w5.alloc (.cells #[.int .u8 128] 5)) := (Below.refl _ _).alloc (Nat.le_refl _) _
              refine (concat_any ea (some ⟨w5.heap.size, 0, none⟩) n ec 1 1 E [128] _ ((((hE.later b3).later b4).later b5).later bS) hS (by omega) (by omega)).mono ?_
              rintro e w7 ⟨rfl, h7, b7⟩
              rw [size_new] at h7
              go_wp2_with fail
              refine (concat_any _ ta (n + 1) (n + 1) 4 tc (E ++ [128]) T w7 h7 ((((hT.later b4).later b5).later bS).later b7) (by omega) (by omega)).mono ?_
              rintro e w8 ⟨rfl, h8, b8⟩
              go_wp2_with fail
              refine (is_all _ (n + 1 + 4) (n + 1 + 4) _ w8 h8 (by omega) (Nat.le_refl _)).mono ?_
              rintro e w' ⟨rfl, rfl⟩
              rw [HG3.out 128 (by omega)]
              go_wp2
              go_ret
              exact ⟨rfl, bstep (bstep (bstep (bstep bw4 b5) bS) b7) b8⟩
          · go_wp2_with fail
            refine (concat_any ea ta n ec 2 tc E (T.take 2) w4 ((hE.later b3).later b4) ((hT.later b4).take (by omega)) (by omega) (by omega)).mono ?_
            rintro e w5 ⟨rfl, h5, b5⟩
            go_wp2_with fail
            refine (is_all _ (n + 2) (n + 2) _ w5 h5 (by omega) (Nat.le_refl _)).mono ?_
            rintro e w' ⟨rfl, rfl⟩
            rw [HG4.out 2 (by omega) (by omega)]
            cases hs : (cut % 2 == 0)
            · go_wp2_with fail
              have hS := at_one_new w5 255
              have bS : Below w5.heap.size w5 (w5.alloc (.cells #[.int .u8 255] 5)) := (Below.refl _ _).alloc (Nat.le_refl _) _
              refine (concat_any ea (some ⟨w5.heap.size, 0, none⟩) n ec 1 1 E [255] _ ((((hE.later b3).later b4).later b5).later bS) hS (by omega) (by omega)).mono ?_
              rintro e w7 ⟨rfl, h7, b7⟩
              rw [size_new] at h7
              go_wp2_with fail
              refine (concat_any _ ta (n + 1) (n + 1) 4 tc (E ++ [255]) T w7 h7 ((((hT.later b4).later b5).later bS).later b7) (by omega) (by omega)).mono ?_
              rintro e w8 ⟨rfl, h8, b8⟩
              go_wp2_with fail
              refine (is_all _ (n + 1 + 4) (n + 1 + 4) _ w8 h8 (by omega) (Nat.le_refl _)).mono ?_
              rintro e w' ⟨rfl, rfl⟩
              rw [HG3.out 255 (by omega)]
              go_wp2
              go_ret
              exact ⟨rfl, bstep (bstep (bstep (bstep bw4 b5) bS) b7) b8⟩
            · go_wp2_with fail
              have hS := at_one_new w5 128
              have bS : Below w5.heap.size w5 (w5.alloc (.cells #[.int .u8 128] 5)) := (Below.refl _ _).alloc (Nat.le_refl _) _
              refine (concat_any ea (some ⟨w5.heap.size, 0, none⟩) n ec 1 1 E [128] _ ((((hE.later b3).later b4).later b5).later bS) hS (by omega) (by omega)).mono ?_
              rintro e w7 ⟨rfl, h7, b7⟩
              rw [size_new] at h7
              go_wp2_with fail
              refine (concat_any _ ta (n + 1) (n + 1) 4 tc (E ++ [128]) T w7 h7 ((((hT.later b4).later b5).later bS).later b7) (by omega) (by omega)).mono ?_
              rintro e w8 ⟨rfl, h8, b8⟩
              go_wp2_with fail
              refine (is_all _ (n + 1 + 4) (n + 1 + 4) _ w8 h8 (by omega) (Nat.le_refl _)).mono ?_
              rintro e w' ⟨rfl, rfl⟩
              rw [HG3.out 128 (by omega)]
              go_wp2
              go_ret
              exact ⟨rfl, bstep (bstep (bstep (bstep bw4 b5) bS) b7) b8⟩
          · go_wp2_with fail
            refine (concat_any ea ta n ec 3 tc E (T.take 3) w4 ((hE.later b3).later b4) ((hT.later b4).take (by omega)) (by omega) (by omega)).mono ?_
            rintro e w5 ⟨rfl, h5, b5⟩
            go_wp2_with fail
            refine (is_all _ (n + 3) (n + 3) _ w5 h5 (by omega) (Nat.le_refl _)).mono ?_
            rintro e w' ⟨rfl, rfl⟩
            rw [HG4.out 3 (by omega) (by omega)]
            cases hs : (cut % 2 == 0)
            · go_wp2_with fail
              have hS := at_one_new w5 255
              have bS : Below w5.heap.size w5 (w5.alloc (.cells #[.int .u8 255] 5)) := (Below.refl _ _).alloc (Nat.le_refl _) _
              refine (concat_any ea (some ⟨w5.heap.size, 0, none⟩) n ec 1 1 E [255] _ ((((hE.later b3).later b4).later b5).later bS) hS (by omega) (by omega)).mono ?_
              rintro e w7 ⟨rfl, h7, b7⟩
              rw [size_new] at h7
              go_wp2_with fail
              refine (concat_any _ ta (n + 1) (n + 1) 4 tc (E ++ [255]) T w7 h7 ((((hT.later b4).later b5).later bS).later b7) (by omega) (by omega)).mono ?_
              rintro e w8 ⟨rfl, h8, b8⟩
              go_wp2_with fail
              refine (is_all _ (n + 1 + 4) (n + 1 + 4) _ w8 h8 (by omega) (Nat.le_refl _)).mono ?_
              rintro e w' ⟨rfl, rfl⟩
              rw [HG3.out 255 (by omega)]
              go_wp2
              go_ret
              exact ⟨rfl, bstep (bstep (bstep (bstep bw4 b5) bS) b7) b8⟩
            · go_wp2_with fail
              have hS := at_one_new w5 128
              have bS : Below w5.heap.size w5 (w5.alloc (.cells #[.int .u8 128] 5)) := (Below.refl _ _).alloc (Nat.le_refl _) _
              refine (concat_any ea (some ⟨w5.heap.size, 0, none⟩) n ec 1 1 E [128] _ ((((hE.later b3).later b4).later b5).later bS) hS (by omega) (by omega)).mono ?_
              rintro e w7 ⟨rfl, h7, b7⟩
              rw [size_new] at h7
              go_wp2_with fail
              refine (concat_any _ ta (n + 1) (n + 1) 4 tc (E ++ [128]) T w7 h7 ((((hT.later b4).later b5).later bS).later b7) (by omega) (by omega)).mono ?_
              rintro e w8 ⟨rfl, h8, b8⟩
              go_wp2_with fail
              refine (is_all _ (n + 1 + 4) (n + 1 + 4) _ w8 h8 (by omega) (Nat.le_refl _)).mono ?_
              rintro e w' ⟨rfl, rfl⟩
              rw [HG3.out 128 (by omega)]
              go_wp2
              go_ret
              exact ⟨rfl, bstep (bstep (bstep (bstep bw4 b5) bS) b7) b8⟩

end Go.Proofs.Qxb6600037a
