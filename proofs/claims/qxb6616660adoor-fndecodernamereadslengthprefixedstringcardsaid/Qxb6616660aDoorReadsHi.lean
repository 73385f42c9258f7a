import Derived.Test.Qxb6616660aDoorReadsShort
namespace Go.Proofs.Qxb6616660aDoor
open Go.RowKit Go.Qm

set_option maxRecDepth 100000 in
set_option maxHeartbeats 4000000 in
theorem reads_okHi {D D' : Nat} {w : World} {ao ao' : Option Addr} {len cap len' cap' k : Nat} {l l' : List UInt8} (h : Bs D w ao len cap l) (h' : Bs D' w ao' len' cap' l') (hl : len ≤ 524288) (hl' : len' ≤ 524288) (hk : k ≤ len)
    (T : TypeId) (x : Value) (hG : w.cell? ⟨0, 0, none⟩ = some (.iface T x)) (tt : Nat) (htt : tt < len) (hlow : lowAt l = tt) (h9 : tt < 9) (V : Nat) (hV : num (dg l (tt + 1)) = V) (U : Nat) (hU : tt + 1 + V = U) (hUl0 : U ≤ len) (hkU : U ≤ k) :
    Calls Tryd.prog 3 #[.slice ao len cap, .slice ao' len' cap', .int .i64 (k : Int)] w fun e w' => e = .returned (.bool true) ∧ Upd [] w w' := by
  have G := hid hG
  have H := hid h
  have H' := hid h'
  have HLEN := hid h.hlen
  have hterm : term l = some tt := by rw [← hlow]; exact term_yes (by rw [hlow, h.hlen]; exact htt) (by omega) (fun hc => by omega)
  have HNUM := hid (Term_num (Term_of hterm))
  obtain ⟨s1, hs1⟩ : ∃ y, (⟨((l.drop (tt + 1)).take V).toArray⟩ : ByteArray) = y := ⟨_, rfl⟩
  have hUl : tt + 1 + V ≤ l.length := by rw [h.hlen, hU]; exact hUl0
  have HN := hid (nm_whole hterm hV hUl)
  have HNM := hid (nm_more (m := l') hterm hV hUl)
  rw [hU] at HN HNM
  have HNK := hid (nm_take_long hterm hV k (by omega) (by rw [h.hlen]; exact hk))
  rw [hU] at HNK
  have HS1 := hid hs1
  have HUV := hid hU
  clear hs1 hU hUl
  have HV := hid hV
  have HLOW := hid hlow
  clear hlow hterm hV
  have t1 : decide (524288 < (len : Int)) = false := by simp; omega
  have t2 : decide (524288 < (len' : Int)) = false := by simp; omega
  have t3 : decide ((k : Int) < 0) = false := by simp
  have t4 : decide ((len : Int) < (k : Int)) = false := by simp; omega
  have t5 : decide (len < k) = false := by simp; omega
  clear hG h h'
  go_enter Tryd.func3, Tryd.ntmps3
  go_wp2_with (go_at_call 5; go_in)
  refine (clone_any H.out (by omega)).mono ?_
  rintro e w1 ⟨ao1, cap1, rfl, hb1, hu1⟩
  have G1 := gup G hu1
  have B1 := hid hb1; clear hb1
  have T1 := hid (bup H'.out hu1)
  go_wp2_with fail
  refine (clone_any T1.out (by omega)).mono ?_
  rintro e w2 ⟨ao2, cap2, rfl, hb2, hu2⟩
  have G2 := gup G1 hu2
  have T2 := hid hb2; clear hb2
  have B2 := hid (bup B1.out hu2)
  go_wp2_with fail
  refine (clone_any B2.out (by omega)).mono ?_
  rintro e w3 ⟨ao3, cap3, rfl, hb3, hu3⟩
  have G3 := gup G2 hu3
  have C3 := hid hb3; clear hb3
  have T3 := hid (bup T2.out hu3)
  have B3 := hid (bup B2.out hu3)
  go_wp2_with fail
  refine (zname_any C3.out (by omega) (Nat.le_refl _) T x G3.out).mono ?_
  rintro e w4 ⟨ao4, len4, cap4, er4, rfl, hb4, her4, hlen4, hu4⟩
  rw [HN.out] at hb4 her4
  rcases her4 with ⟨_, rfl⟩ | ⟨hh, _⟩
  rotate_left
  · cases hh
  rw [HN.out, HS1.out]
  have G4 := gup G3 hu4
  have R4 := hid hb4.top; clear hb4
  have T4' := hid (bup T3.out hu4)
  have B4 := hid (bup B3.out hu4)
  have hc1 := B4.out.hcap
  go_wp2_with fail
  refine (clone_any (B4.out.take k hk) (by omega)).mono ?_
  rintro e w5 ⟨ao5, cap5, rfl, hb5, hu5⟩
  have G5 := gup G4 hu5
  have C5 := hid hb5; clear hb5
  have T5' := hid (bup T4'.out hu5)
  have B5 := hid (bup B4.out hu5)
  have R5 := hid (bup R4.out hu5)
  go_wp2_with fail
  refine (zname_any C5.out (by omega) (Nat.le_refl _) T x G5.out).mono ?_
  rintro e w6 ⟨ao6, len6, cap6, er6, rfl, hb6, her6, hlen6, hu6⟩
  rw [HNK.out] at her6 hb6
  rcases her6 with ⟨_, rfl⟩ | ⟨hh, _⟩
  rotate_left
  · cases hh
  rw [HNK.out, HS1.out]
  have G6 := gup G5 hu6
  have T6' := hid (bup T5'.out hu6)
  have B6 := hid (bup B5.out hu6)
  have R6 := hid (bup R5.out hu6)
  have Q6 := hid hb6.top
  have HU := hid (((((hu1.trans hu2).trans hu3).trans hu4).trans hu5).trans hu6)
  clear hb6 hu1 hu2 hu3 hu4 hu5 hu6
  go_wp2_with fail
  go_loop [13, 14] (fun t i => t = .int .i64 (-1) ∧ ∃ j : Nat, j ≤ tt ∧ i = .int .i64 j) (fun _ i => len - (intOf i).toNat)
  case atStart => exact ⟨rfl, 0, Nat.zero_le _, rfl⟩
  case round =>
    obtain ⟨rfl, j, hj, rfl⟩ := hrel
    obtain ⟨b, off, rfl, hb, hc⟩ := B6.out.spot (by omega)
    have hlt : j < len := by omega
    have hcell := hc j hlt
    obtain ⟨y, hy⟩ : ∃ y, (l.getD j 0).toNat = y := ⟨_, rfl⟩
    have HY := hid hy
    by_cases hjt : j < tt
    · have hy128 : 128 ≤ y := by rw [← hy]; exact lowAt_ge (by rw [HLOW.out]; exact hjt)
      rw [hy] at hcell
      clear hy hc
      go_wp2
      go_round
      case rel => exact ⟨rfl, j + 1, by omega, by go_num⟩
      case measure => simp [intOf]; omega
    · obtain rfl : j = tt := by omega
      have hy128 : y < 128 := by rw [← hy, ← HLOW.out]; exact lowAt_lt (by rw [HLOW.out, HLEN.out]; exact hlt)
      rw [hy] at hcell
      have HC := hid hc
      clear hy hc
      have g1 : ((j : Int) == 9) = false := by simp; omega
      have g5 : decide ((j : Int) < 0) = false := by simp
      have g6 : decide (9 < (j : Int)) = false := by simp; omega
      go_wp2_with fail
      go_loop [15, 16] (fun v i => ∃ (m : Nat) (I : Int), m ≤ j + 1 ∧ Hid (I = (m : Int) - 1) ∧ i = .int .i64 I ∧ v = .int .u64 ((num ((dg l (j + 1)).drop m) : Nat) : Int)) (fun _ i => (intOf i + 1).toNat)
      case atStart =>
        refine ⟨j + 1, _, Nat.le_refl _, hid (by omega), rfl, ?_⟩
        rw [List.drop_of_length_le (by rw [dg_length l (j + 1) (by have := HLEN.out; omega)]; exact Nat.le_refl _)]; rfl
      case round =>
        obtain ⟨m, I, hm, hI, rfl, rfl⟩ := hrel
        rcases m with _ | m
        rotate_left
        · obtain ⟨V, hV⟩ : ∃ V, num ((dg l (j + 1)).drop (m + 1)) = V := ⟨_, rfl⟩
          obtain ⟨V', hV'⟩ : ∃ V', num ((dg l (j + 1)).drop m) = V' := ⟨_, rfl⟩
          obtain ⟨y2, hy2⟩ : ∃ y, (l.getD m 0).toNat = y := ⟨_, rfl⟩
          have hcell2 := HC.out m (by omega)
          rw [hy2] at hcell2
          have hy256 : y2 < 256 := by rw [← hy2]; exact UInt8.toNat_lt _
          obtain ⟨z, hz⟩ : ∃ z, y2 % 128 = z := ⟨_, rfl⟩
          have hand : bits BinOp.and IntKind.u8 (y2 : Int) 127 = (z : Int) := by
            have := u8_and_nat y2 127 hy256 (by decide)
            rw [show ((127 : Nat) : Int) = 127 from rfl] at this
            rw [this, nat_mask7, hz]
          have hst := num_step (n := j + 1) (by have := HLEN.out; omega) (by omega) hy2 hz hV hV'
          have hle : V' < 18446744073709551616 := by rw [← hV']; exact Nat.lt_of_le_of_lt (num_drop_le _ _) HNUM.out
          have hor : bits BinOp.or IntKind.u64 ((V : Int) * 128) (z : Int) = (V' : Int) := by rw [or7 V z (by omega) (by omega), hst]
          have hz128 : z < 128 := by omega
          have hVle : (V : Int) * 128 ≤ 18446744073709551615 := by omega
          obtain rfl : I = (m : Int) := by have := hI.out; omega
          rw [hV]
          have HV' := hid hV'
          clear hV hV' hy2 hz hst hI
          go_wp2
          go_round
          case rel => exact ⟨m, (m : Int) - 1, by omega, hid rfl, rfl, by rw [HV'.out]⟩
          case measure => simp [intOf] <;> omega
        · have hI0 := hI.out
          simp only [Int.natCast_zero] at hI0
          subst hI0
          rw [List.drop_zero, HV.out]
          have k1 : ∀ wx, (Instr.slice 22 (.slice (some ⟨b, off, none⟩) len cap1) (some (.int .i64 ((j : Int) + 1))) none none).run Tryd.prog wx = .ok (.slice (cutA (some ⟨b, off, none⟩) cap1 (j + 1)) (len - (j + 1)) (cap1 - (j + 1))) wx := by
            intro wx
            have := cut_l wx (some ⟨b, off, none⟩) len cap1 (j + 1) (by omega)
            rw [show ((j + 1 : Nat) : Int) = (j : Int) + 1 from by omega] at this
            exact this
          have hUle : U ≤ len := by have := HUV.out; omega
          have hUj : U - (j + 1) = V := by have := HUV.out; omega
          have eU : (j : Int) + 1 + (V : Int) = (U : Int) := by have := HUV.out; omega
          have k2 : ∀ wx, (Instr.slice 22 (.slice (some ⟨b, off, none⟩) len cap1) (some (.int .i64 ((j : Int) + 1))) (some (.int .i64 (U : Int))) none).run Tryd.prog wx = .ok (.slice (cutA (some ⟨b, off, none⟩) cap1 (j + 1)) V (cap1 - (j + 1))) wx := by
            intro wx
            have := cut_lh wx (some ⟨b, off, none⟩) len cap1 (j + 1) U (by have := HUV.out; omega) (by omega)
            rw [show ((j + 1 : Nat) : Int) = (j : Int) + 1 from by omega, hUj] at this
            exact this
          have k3 := fun wx => cut_l wx (some ⟨b, off, none⟩) len cap1 U hUle
          have k4 := conv_bs ((B6.out.drop (j + 1) (by omega) (ao' := cutA (some ⟨b, off, none⟩) cap1 (j + 1)) rfl).take V (by have := HUV.out; omega))
          rw [HS1.out] at k4
          have hVlen : V ≤ len - (j + 1) := by have := HUV.out; omega
          have X1 := hid (B6.out.drop U hUle (ao' := cutA (some ⟨b, off, none⟩) cap1 U) rfl)
          clear hUj
          go_wp2_with fail
          refine (same_any R6.out X1.out (by omega)).mono ?_
          rintro e w7 ⟨rfl, q, rfl⟩
          have G7 := gup G6 (Upd.drewN [] _ q)
          have T7 := hid (bup T6'.out (Upd.drewN [] _ q))
          have B7 := hid (bup B6.out (Upd.drewN [] _ q))
          have X7 := hid (bup X1.out (Upd.drewN [] _ q))
          have Q7 := hid (bup Q6.out (Upd.drewN [] _ q))
          clear k1 k2 k4
          go_wp2_with fail
          refine (concat_any B7.out T7.out (by omega) (by omega)).mono ?_
          rintro e w8 ⟨ao8, cap8, rfl, hb8, hu8⟩
          have G8 := gup G7 hu8
          have C8 := hid hb8
          have T8 := hid (bup T7.out hu8)
          have B8 := hid (bup B7.out hu8)
          have X8 := hid (bup X7.out hu8)
          have Q8 := hid (bup Q7.out hu8)
          clear hb8
          go_wp2_with fail
          refine (zname_any C8.out (by omega) (Nat.le_refl _) T x G8.out).mono ?_
          rintro e w9 ⟨ao9, len9, cap9, er9, rfl, hb9, her9, hlen9, hu9⟩
          rw [HNM.out] at hb9 her9
          rcases her9 with ⟨_, rfl⟩ | ⟨hh, _⟩
          rotate_left
          · cases hh
          rw [HNM.out, HS1.out]
          have R9 := hid hb9.top
          have T9 := hid (bup T8.out hu9)
          have X9 := hid (bup X8.out hu9)
          have Q9 := hid (bup Q8.out hu9)
          have B9 := hid (bup B8.out hu9)
          clear hb9
          go_wp2_with fail
          refine (concat_any X9.out T9.out (by omega) (by omega)).mono ?_
          rintro e w10 ⟨ao10, cap10, rfl, hb10, hu10⟩
          have C10 := hid hb10
          have R10 := hid (bup R9.out hu10)
          have Q10 := hid (bup Q9.out hu10)
          have B10 := hid (bup B9.out hu10)
          clear hb10
          go_wp2_with fail
          refine (same_any R10.out C10.out (by omega)).mono ?_
          rintro e w11 ⟨rfl, q2, rfl⟩
          have HU2 := hid ((((HU.out.trans (Upd.drewN _ _ q)).trans hu8).trans hu9).trans hu10)
          have hkU' : ¬ (k : Int) < (U : Int) := by omega
          have k5 := fun wx => cut_lh wx (some ⟨b, off, none⟩) len cap1 U k hkU (by omega)
          have X2 := hid (((bup B10.out (Upd.drewN [] _ q2)).take k hk).drop U hkU (ao' := cutA (some ⟨b, off, none⟩) cap1 U) rfl)
          have Q11 := hid (bup Q10.out (Upd.drewN [] _ q2))
          go_wp2_with fail
          refine (same_any Q11.out X2.out (by omega)).mono ?_
          rintro e w12 ⟨rfl, q3, rfl⟩
          go_wp2
          go_ret
          exact ⟨rfl, HU2.out.trans (Upd.drewN _ _ _)⟩

set_option maxRecDepth 100000 in
set_option maxHeartbeats 4000000 in
theorem reads_okHi9 {D D' : Nat} {w : World} {ao ao' : Option Addr} {len cap len' cap' k : Nat} {l l' : List UInt8} (h : Bs D w ao len cap l) (h' : Bs D' w ao' len' cap' l') (hl : len ≤ 524288) (hl' : len' ≤ 524288) (hk : k ≤ len)
    (T : TypeId) (x : Value) (hG : w.cell? ⟨0, 0, none⟩ = some (.iface T x)) (tt : Nat) (htt : tt < len) (hlow : lowAt l = tt) (h9 : tt = 9) (hy9 : (l.getD 9 0).toNat ≤ 1) (V : Nat) (hV : num (dg l (tt + 1)) = V) (U : Nat) (hU : tt + 1 + V = U) (hUl0 : U ≤ len) (hkU : U ≤ k) :
    Calls Tryd.prog 3 #[.slice ao len cap, .slice ao' len' cap', .int .i64 (k : Int)] w fun e w' => e = .returned (.bool true) ∧ Upd [] w w' := by
  have G := hid hG
  have H := hid h
  have H' := hid h'
  have HLEN := hid h.hlen
  have hterm : term l = some tt := by rw [← hlow]; exact term_yes (by rw [hlow, h.hlen]; exact htt) (by omega) (fun _ => hy9)
  have HNUM := hid (Term_num (Term_of hterm))
  obtain ⟨s1, hs1⟩ : ∃ y, (⟨((l.drop (tt + 1)).take V).toArray⟩ : ByteArray) = y := ⟨_, rfl⟩
  have hUl : tt + 1 + V ≤ l.length := by rw [h.hlen, hU]; exact hUl0
  have HN := hid (nm_whole hterm hV hUl)
  have HNM := hid (nm_more (m := l') hterm hV hUl)
  rw [hU] at HN HNM
  have HNK := hid (nm_take_long hterm hV k (by omega) (by rw [h.hlen]; exact hk))
  rw [hU] at HNK
  have HS1 := hid hs1
  have HUV := hid hU
  clear hs1 hU hUl
  have HV := hid hV
  have HLOW := hid hlow
  have HT9 := hid h9
  have HY9 := hid hy9
  have h99 : tt ≤ 9 := by omega
  rw [← h9] at HY9
  clear h9 hy9
  clear hlow hterm hV
  have t1 : decide (524288 < (len : Int)) = false := by simp; omega
  have t2 : decide (524288 < (len' : Int)) = false := by simp; omega
  have t3 : decide ((k : Int) < 0) = false := by simp
  have t4 : decide ((len : Int) < (k : Int)) = false := by simp; omega
  have t5 : decide (len < k) = false := by simp; omega
  clear hG h h'
  go_enter Tryd.func3, Tryd.ntmps3
  go_wp2_with (go_at_call 5; go_in)
  refine (clone_any H.out (by omega)).mono ?_
  rintro e w1 ⟨ao1, cap1, rfl, hb1, hu1⟩
  have G1 := gup G hu1
  have B1 := hid hb1; clear hb1
  have T1 := hid (bup H'.out hu1)
  go_wp2_with fail
  refine (clone_any T1.out (by omega)).mono ?_
  rintro e w2 ⟨ao2, cap2, rfl, hb2, hu2⟩
  have G2 := gup G1 hu2
  have T2 := hid hb2; clear hb2
  have B2 := hid (bup B1.out hu2)
  go_wp2_with fail
  refine (clone_any B2.out (by omega)).mono ?_
  rintro e w3 ⟨ao3, cap3, rfl, hb3, hu3⟩
  have G3 := gup G2 hu3
  have C3 := hid hb3; clear hb3
  have T3 := hid (bup T2.out hu3)
  have B3 := hid (bup B2.out hu3)
  go_wp2_with fail
  refine (zname_any C3.out (by omega) (Nat.le_refl _) T x G3.out).mono ?_
  rintro e w4 ⟨ao4, len4, cap4, er4, rfl, hb4, her4, hlen4, hu4⟩
  rw [HN.out] at hb4 her4
  rcases her4 with ⟨_, rfl⟩ | ⟨hh, _⟩
  rotate_left
  · cases hh
  rw [HN.out, HS1.out]
  have G4 := gup G3 hu4
  have R4 := hid hb4.top; clear hb4
  have T4' := hid (bup T3.out hu4)
  have B4 := hid (bup B3.out hu4)
  have hc1 := B4.out.hcap
  go_wp2_with fail
  refine (clone_any (B4.out.take k hk) (by omega)).mono ?_
  rintro e w5 ⟨ao5, cap5, rfl, hb5, hu5⟩
  have G5 := gup G4 hu5
  have C5 := hid hb5; clear hb5
  have T5' := hid (bup T4'.out hu5)
  have B5 := hid (bup B4.out hu5)
  have R5 := hid (bup R4.out hu5)
  go_wp2_with fail
  refine (zname_any C5.out (by omega) (Nat.le_refl _) T x G5.out).mono ?_
  rintro e w6 ⟨ao6, len6, cap6, er6, rfl, hb6, her6, hlen6, hu6⟩
  rw [HNK.out] at her6 hb6
  rcases her6 with ⟨_, rfl⟩ | ⟨hh, _⟩
  rotate_left
  · cases hh
  rw [HNK.out, HS1.out]
  have G6 := gup G5 hu6
  have T6' := hid (bup T5'.out hu6)
  have B6 := hid (bup B5.out hu6)
  have R6 := hid (bup R5.out hu6)
  have Q6 := hid hb6.top
  have HU := hid (((((hu1.trans hu2).trans hu3).trans hu4).trans hu5).trans hu6)
  clear hb6 hu1 hu2 hu3 hu4 hu5 hu6
  go_wp2_with fail
  go_loop [13, 14] (fun t i => t = .int .i64 (-1) ∧ ∃ j : Nat, j ≤ tt ∧ i = .int .i64 j) (fun _ i => len - (intOf i).toNat)
  case atStart => exact ⟨rfl, 0, Nat.zero_le _, rfl⟩
  case round =>
    obtain ⟨rfl, j, hj, rfl⟩ := hrel
    obtain ⟨b, off, rfl, hb, hc⟩ := B6.out.spot (by omega)
    have hlt : j < len := by omega
    have hcell := hc j hlt
    obtain ⟨y, hy⟩ : ∃ y, (l.getD j 0).toNat = y := ⟨_, rfl⟩
    have HY := hid hy
    by_cases hjt : j < tt
    · have hy128 : 128 ≤ y := by rw [← hy]; exact lowAt_ge (by rw [HLOW.out]; exact hjt)
      rw [hy] at hcell
      clear hy hc
      go_wp2
      go_round
      case rel => exact ⟨rfl, j + 1, by omega, by go_num⟩
      case measure => simp [intOf]; omega
    · obtain rfl : j = tt := by omega
      have hy128 : y < 128 := by rw [← hy, ← HLOW.out]; exact lowAt_lt (by rw [HLOW.out, HLEN.out]; exact hlt)
      rw [hy] at hcell
      have HC := hid hc
      clear hy hc
      have g1 : ((j : Int) == 9) = true := by have := HT9.out; simp; omega
      have g2 : w6.cell? ⟨b, off + 9, none⟩ = some (.int .u8 (y : Int)) := by rw [← HT9.out]; exact hcell
      have g3 : decide (1 < (y : Int)) = false := by have := HY9.out; rw [HY.out] at this; simp; omega
      have g4 : 9 < len := by have := HT9.out; omega
      have g5 : decide ((j : Int) < 0) = false := by simp
      have g6 : decide (9 < (j : Int)) = false := by simp; omega
      go_wp2_with fail
      go_loop [15, 16] (fun v i => ∃ (m : Nat) (I : Int), m ≤ j + 1 ∧ Hid (I = (m : Int) - 1) ∧ i = .int .i64 I ∧ v = .int .u64 ((num ((dg l (j + 1)).drop m) : Nat) : Int)) (fun _ i => (intOf i + 1).toNat)
      case atStart =>
        refine ⟨j + 1, _, Nat.le_refl _, hid (by omega), rfl, ?_⟩
        rw [List.drop_of_length_le (by rw [dg_length l (j + 1) (by have := HLEN.out; omega)]; exact Nat.le_refl _)]; rfl
      case round =>
        obtain ⟨m, I, hm, hI, rfl, rfl⟩ := hrel
        rcases m with _ | m
        rotate_left
        · obtain ⟨V, hV⟩ : ∃ V, num ((dg l (j + 1)).drop (m + 1)) = V := ⟨_, rfl⟩
          obtain ⟨V', hV'⟩ : ∃ V', num ((dg l (j + 1)).drop m) = V' := ⟨_, rfl⟩
          obtain ⟨y2, hy2⟩ : ∃ y, (l.getD m 0).toNat = y := ⟨_, rfl⟩
          have hcell2 := HC.out m (by omega)
          rw [hy2] at hcell2
          have hy256 : y2 < 256 := by rw [← hy2]; exact UInt8.toNat_lt _
          obtain ⟨z, hz⟩ : ∃ z, y2 % 128 = z := ⟨_, rfl⟩
          have hand : bits BinOp.and IntKind.u8 (y2 : Int) 127 = (z : Int) := by
            have := u8_and_nat y2 127 hy256 (by decide)
            rw [show ((127 : Nat) : Int) = 127 from rfl] at this
            rw [this, nat_mask7, hz]
          have hst := num_step (n := j + 1) (by have := HLEN.out; omega) (by omega) hy2 hz hV hV'
          have hle : V' < 18446744073709551616 := by rw [← hV']; exact Nat.lt_of_le_of_lt (num_drop_le _ _) HNUM.out
          have hor : bits BinOp.or IntKind.u64 ((V : Int) * 128) (z : Int) = (V' : Int) := by rw [or7 V z (by omega) (by omega), hst]
          have hz128 : z < 128 := by omega
          have hVle : (V : Int) * 128 ≤ 18446744073709551615 := by omega
          obtain rfl : I = (m : Int) := by have := hI.out; omega
          rw [hV]
          have HV' := hid hV'
          clear hV hV' hy2 hz hst hI
          go_wp2
          go_round
          case rel => exact ⟨m, (m : Int) - 1, by omega, hid rfl, rfl, by rw [HV'.out]⟩
          case measure => simp [intOf] <;> omega
        · have hI0 := hI.out
          simp only [Int.natCast_zero] at hI0
          subst hI0
          rw [List.drop_zero, HV.out]
          have k1 : ∀ wx, (Instr.slice 22 (.slice (some ⟨b, off, none⟩) len cap1) (some (.int .i64 ((j : Int) + 1))) none none).run Tryd.prog wx = .ok (.slice (cutA (some ⟨b, off, none⟩) cap1 (j + 1)) (len - (j + 1)) (cap1 - (j + 1))) wx := by
            intro wx
            have := cut_l wx (some ⟨b, off, none⟩) len cap1 (j + 1) (by omega)
            rw [show ((j + 1 : Nat) : Int) = (j : Int) + 1 from by omega] at this
            exact this
          have hUle : U ≤ len := by have := HUV.out; omega
          have hUj : U - (j + 1) = V := by have := HUV.out; omega
          have eU : (j : Int) + 1 + (V : Int) = (U : Int) := by have := HUV.out; omega
          have k2 : ∀ wx, (Instr.slice 22 (.slice (some ⟨b, off, none⟩) len cap1) (some (.int .i64 ((j : Int) + 1))) (some (.int .i64 (U : Int))) none).run Tryd.prog wx = .ok (.slice (cutA (some ⟨b, off, none⟩) cap1 (j + 1)) V (cap1 - (j + 1))) wx := by
            intro wx
            have := cut_lh wx (some ⟨b, off, none⟩) len cap1 (j + 1) U (by have := HUV.out; omega) (by omega)
            rw [show ((j + 1 : Nat) : Int) = (j : Int) + 1 from by omega, hUj] at this
            exact this
          have k3 := fun wx => cut_l wx (some ⟨b, off, none⟩) len cap1 U hUle
          have k4 := conv_bs ((B6.out.drop (j + 1) (by omega) (ao' := cutA (some ⟨b, off, none⟩) cap1 (j + 1)) rfl).take V (by have := HUV.out; omega))
          rw [HS1.out] at k4
          have hVlen : V ≤ len - (j + 1) := by have := HUV.out; omega
          have X1 := hid (B6.out.drop U hUle (ao' := cutA (some ⟨b, off, none⟩) cap1 U) rfl)
          clear hUj
          go_wp2_with fail
          refine (same_any R6.out X1.out (by omega)).mono ?_
          rintro e w7 ⟨rfl, q, rfl⟩
          have G7 := gup G6 (Upd.drewN [] _ q)
          have T7 := hid (bup T6'.out (Upd.drewN [] _ q))
          have B7 := hid (bup B6.out (Upd.drewN [] _ q))
          have X7 := hid (bup X1.out (Upd.drewN [] _ q))
          have Q7 := hid (bup Q6.out (Upd.drewN [] _ q))
          clear k1 k2 k4
          go_wp2_with fail
          refine (concat_any B7.out T7.out (by omega) (by omega)).mono ?_
          rintro e w8 ⟨ao8, cap8, rfl, hb8, hu8⟩
          have G8 := gup G7 hu8
          have C8 := hid hb8
          have T8 := hid (bup T7.out hu8)
          have B8 := hid (bup B7.out hu8)
          have X8 := hid (bup X7.out hu8)
          have Q8 := hid (bup Q7.out hu8)
          clear hb8
          go_wp2_with fail
          refine (zname_any C8.out (by omega) (Nat.le_refl _) T x G8.out).mono ?_
          rintro e w9 ⟨ao9, len9, cap9, er9, rfl, hb9, her9, hlen9, hu9⟩
          rw [HNM.out] at hb9 her9
          rcases her9 with ⟨_, rfl⟩ | ⟨hh, _⟩
          rotate_left
          · cases hh
          rw [HNM.out, HS1.out]
          have R9 := hid hb9.top
          have T9 := hid (bup T8.out hu9)
          have X9 := hid (bup X8.out hu9)
          have Q9 := hid (bup Q8.out hu9)
          have B9 := hid (bup B8.out hu9)
          clear hb9
          go_wp2_with fail
          refine (concat_any X9.out T9.out (by omega) (by omega)).mono ?_
          rintro e w10 ⟨ao10, cap10, rfl, hb10, hu10⟩
          have C10 := hid hb10
          have R10 := hid (bup R9.out hu10)
          have Q10 := hid (bup Q9.out hu10)
          have B10 := hid (bup B9.out hu10)
          clear hb10
          go_wp2_with fail
          refine (same_any R10.out C10.out (by omega)).mono ?_
          rintro e w11 ⟨rfl, q2, rfl⟩
          have HU2 := hid ((((HU.out.trans (Upd.drewN _ _ q)).trans hu8).trans hu9).trans hu10)
          have hkU' : ¬ (k : Int) < (U : Int) := by omega
          have k5 := fun wx => cut_lh wx (some ⟨b, off, none⟩) len cap1 U k hkU (by omega)
          have X2 := hid (((bup B10.out (Upd.drewN [] _ q2)).take k hk).drop U hkU (ao' := cutA (some ⟨b, off, none⟩) cap1 U) rfl)
          have Q11 := hid (bup Q10.out (Upd.drewN [] _ q2))
          go_wp2_with fail
          refine (same_any Q11.out X2.out (by omega)).mono ?_
          rintro e w12 ⟨rfl, q3, rfl⟩
          go_wp2
          go_ret
          exact ⟨rfl, HU2.out.trans (Upd.drewN _ _ _)⟩
end Go.Proofs.Qxb6616660aDoor
