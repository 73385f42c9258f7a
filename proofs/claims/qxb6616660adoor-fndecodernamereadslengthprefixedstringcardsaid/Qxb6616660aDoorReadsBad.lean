import Derived.Test.Qxb6616660aDoorLawTwice
import Derived.Test.Qxb6616660aDoorPlain2
namespace Go.Proofs.Qxb6616660aDoor
open Go.RowKit Go.Qm

set_option maxRecDepth 100000 in
set_option maxHeartbeats 4000000 in
theorem reads_end {D D' : Nat} {w : World} {ao ao' : Option Addr} {len cap len' cap' k : Nat} {l l' : List UInt8} (h : Bs D w ao len cap l) (h' : Bs D' w ao' len' cap' l') (hl : len ≤ 524288) (hl' : len' ≤ 524288) (hk : k ≤ len)
    (T : TypeId) (x : Value) (hG : w.cell? ⟨0, 0, none⟩ = some (.iface T x)) (hlow : lowAt l = l.length) :
    Calls Tryd.prog 3 #[.slice ao len cap, .slice ao' len' cap', .int .i64 (k : Int)] w fun e w' => e = .returned (.bool true) ∧ Upd [] w w' := by
  have G := hid hG
  have H := hid h
  have H' := hid h'
  have HLEN := hid h.hlen
  have hterm := term_end hlow
  have HN := hid (nm_none hterm)
  have HNK1 := hid (congrArg Prod.fst (nm_take_none hterm k))
  have HNK2 := hid (congrArg (fun z => z.2.1) (nm_take_none hterm k))
  have HLOW := hid hlow
  clear hlow hterm
  have t1 : decide (524288 < (len : Int)) = false := by simp; omega
  have t2 : decide (524288 < (len' : Int)) = false := by simp; omega
  have t3 : decide ((k : Int) < 0) = false := by simp
  have t4 : decide ((len : Int) < (k : Int)) = false := by simp; omega
  have t5 : decide (len < k) = false := by simp; omega
  clear hG h h'
  go_enter Tryd.func3, Tryd.ntmps3
  go_wp2_with (go_at_call 5; go_in)
  refine (clone_any H.out (by omega)).mono ?_
  rintro e w1 ⟨ao1, cap1, rfl, hb1, hu1⟩
  have G1 := gup G hu1
  have B1 := hid hb1; clear hb1
  have T1 := hid (bup H'.out hu1)
  go_wp2_with fail
  refine (clone_any T1.out (by omega)).mono ?_
  rintro e w2 ⟨ao2, cap2, rfl, hb2, hu2⟩
  have G2 := gup G1 hu2
  have T2 := hid hb2; clear hb2
  have B2 := hid (bup B1.out hu2)
  go_wp2_with fail
  refine (clone_any B2.out (by omega)).mono ?_
  rintro e w3 ⟨ao3, cap3, rfl, hb3, hu3⟩
  have G3 := gup G2 hu3
  have C3 := hid hb3; clear hb3
  have T3 := hid (bup T2.out hu3)
  have B3 := hid (bup B2.out hu3)
  go_wp2_with fail
  refine (zname_any C3.out (by omega) (Nat.le_refl _) T x G3.out).mono ?_
  rintro e w4 ⟨ao4, len4, cap4, er4, rfl, hb4, her4, hlen4, hu4⟩
  rw [HN.out] at hb4 her4
  rcases her4 with ⟨hh, _⟩ | ⟨_, Te4, v4, rfl⟩
  · cases hh
  rw [HN.out]
  have G4 := gup G3 hu4
  have R4 := hid hb4.top; clear hb4
  have T4' := hid (bup T3.out hu4)
  have B4 := hid (bup B3.out hu4)
  have hc1 := B4.out.hcap
  go_wp2_with fail
  refine (clone_any (B4.out.take k hk) (by omega)).mono ?_
  rintro e w5 ⟨ao5, cap5, rfl, hb5, hu5⟩
  have G5 := gup G4 hu5
  have C5 := hid hb5; clear hb5
  have T5' := hid (bup T4'.out hu5)
  have B5 := hid (bup B4.out hu5)
  have R5 := hid (bup R4.out hu5)
  go_wp2_with fail
  refine (zname_any C5.out (by omega) (Nat.le_refl _) T x G5.out).mono ?_
  rintro e w6 ⟨ao6, len6, cap6, er6, rfl, hb6, her6, hlen6, hu6⟩
  rcases her6 with ⟨hh, _⟩ | ⟨_, Te6, v6, rfl⟩
  · cases (HNK1.out.symm.trans hh)
  rw [HNK2.out]
  have G6 := gup G5 hu6
  have T6' := hid (bup T5'.out hu6)
  have B6 := hid (bup B5.out hu6)
  have R6 := hid (bup R5.out hu6)
  have Q6 := hid hb6.top
  have HU := hid (((((hu1.trans hu2).trans hu3).trans hu4).trans hu5).trans hu6)
  clear hb6 hu1 hu2 hu3 hu4 hu5 hu6
  go_wp2_with fail
  go_loop [13, 14] (fun t i => t = .int .i64 (-1) ∧ ∃ j : Nat, j ≤ len ∧ i = .int .i64 j) (fun _ i => len - (intOf i).toNat)
  case atStart => exact ⟨rfl, 0, Nat.zero_le _, rfl⟩
  case round =>
    obtain ⟨rfl, j, hj, rfl⟩ := hrel
    by_cases hlt : j < len
    · obtain ⟨b, off, rfl, hb, hc⟩ := B6.out.spot (by omega)
      have hcell := hc j hlt
      obtain ⟨y, hy⟩ : ∃ y, (l.getD j 0).toNat = y := ⟨_, rfl⟩
      have hy128 : 128 ≤ y := by rw [← hy]; exact lowAt_ge (by rw [HLOW.out, HLEN.out]; exact hlt)
      rw [hy] at hcell
      clear hy hc
      go_wp2
      go_round
      case rel => exact ⟨rfl, j + 1, by omega, by go_num⟩
      case measure => simp [intOf]; omega
    · go_wp2_with fail
      refine (same_any R6.out B6.out (by omega)).mono ?_
      rintro e w7 ⟨rfl, q, rfl⟩
      go_wp2
      go_ret
      exact ⟨rfl, HU.out.trans (Upd.drewN _ _ _)⟩

set_option maxRecDepth 100000 in
set_option maxHeartbeats 4000000 in
theorem reads_big {D D' : Nat} {w : World} {ao ao' : Option Addr} {len cap len' cap' k : Nat} {l l' : List UInt8} (h : Bs D w ao len cap l) (h' : Bs D' w ao' len' cap' l') (hl : len ≤ 524288) (hl' : len' ≤ 524288) (hk : k ≤ len)
    (T : TypeId) (x : Value) (hG : w.cell? ⟨0, 0, none⟩ = some (.iface T x)) (tt : Nat) (htt : tt < len) (hlow : lowAt l = tt) (h9 : 9 < tt) :
    Calls Tryd.prog 3 #[.slice ao len cap, .slice ao' len' cap', .int .i64 (k : Int)] w fun e w' => e = .returned (.bool true) ∧ Upd [] w w' := by
  have G := hid hG
  have H := hid h
  have H' := hid h'
  have HLEN := hid h.hlen
  have hterm := term_big (l := l) (by rw [hlow, h.hlen]; exact htt) (by omega)
  have HN := hid (nm_none hterm)
  have HNK1 := hid (congrArg Prod.fst (nm_take_none hterm k))
  have HNK2 := hid (congrArg (fun z => z.2.1) (nm_take_none hterm k))
  have HLOW := hid hlow
  clear hlow hterm
  have t1 : decide (524288 < (len : Int)) = false := by simp; omega
  have t2 : decide (524288 < (len' : Int)) = false := by simp; omega
  have t3 : decide ((k : Int) < 0) = false := by simp
  have t4 : decide ((len : Int) < (k : Int)) = false := by simp; omega
  have t5 : decide (len < k) = false := by simp; omega
  clear hG h h'
  go_enter Tryd.func3, Tryd.ntmps3
  go_wp2_with (go_at_call 5; go_in)
  refine (clone_any H.out (by omega)).mono ?_
  rintro e w1 ⟨ao1, cap1, rfl, hb1, hu1⟩
  have G1 := gup G hu1
  have B1 := hid hb1; clear hb1
  have T1 := hid (bup H'.out hu1)
  go_wp2_with fail
  refine (clone_any T1.out (by omega)).mono ?_
  rintro e w2 ⟨ao2, cap2, rfl, hb2, hu2⟩
  have G2 := gup G1 hu2
  have T2 := hid hb2; clear hb2
  have B2 := hid (bup B1.out hu2)
  go_wp2_with fail
  refine (clone_any B2.out (by omega)).mono ?_
  rintro e w3 ⟨ao3, cap3, rfl, hb3, hu3⟩
  have G3 := gup G2 hu3
  have C3 := hid hb3; clear hb3
  have T3 := hid (bup T2.out hu3)
  have B3 := hid (bup B2.out hu3)
  go_wp2_with fail
  refine (zname_any C3.out (by omega) (Nat.le_refl _) T x G3.out).mono ?_
  rintro e w4 ⟨ao4, len4, cap4, er4, rfl, hb4, her4, hlen4, hu4⟩
  rw [HN.out] at hb4 her4
  rcases her4 with ⟨hh, _⟩ | ⟨_, Te4, v4, rfl⟩
  · cases hh
  rw [HN.out]
  have G4 := gup G3 hu4
  have R4 := hid hb4.top; clear hb4
  have T4' := hid (bup T3.out hu4)
  have B4 := hid (bup B3.out hu4)
  have hc1 := B4.out.hcap
  go_wp2_with fail
  refine (clone_any (B4.out.take k hk) (by omega)).mono ?_
  rintro e w5 ⟨ao5, cap5, rfl, hb5, hu5⟩
  have G5 := gup G4 hu5
  have C5 := hid hb5; clear hb5
  have T5' := hid (bup T4'.out hu5)
  have B5 := hid (bup B4.out hu5)
  have R5 := hid (bup R4.out hu5)
  go_wp2_with fail
  refine (zname_any C5.out (by omega) (Nat.le_refl _) T x G5.out).mono ?_
  rintro e w6 ⟨ao6, len6, cap6, er6, rfl, hb6, her6, hlen6, hu6⟩
  rcases her6 with ⟨hh, _⟩ | ⟨_, Te6, v6, rfl⟩
  · cases (HNK1.out.symm.trans hh)
  rw [HNK2.out]
  have G6 := gup G5 hu6
  have T6' := hid (bup T5'.out hu6)
  have B6 := hid (bup B5.out hu6)
  have R6 := hid (bup R5.out hu6)
  have Q6 := hid hb6.top
  have HU := hid (((((hu1.trans hu2).trans hu3).trans hu4).trans hu5).trans hu6)
  clear hb6 hu1 hu2 hu3 hu4 hu5 hu6
  go_wp2_with fail
  go_loop [13, 14] (fun t i => t = .int .i64 (-1) ∧ ∃ j : Nat, j ≤ tt ∧ i = .int .i64 j) (fun _ i => len - (intOf i).toNat)
  case atStart => exact ⟨rfl, 0, Nat.zero_le _, rfl⟩
  case round =>
    obtain ⟨rfl, j, hj, rfl⟩ := hrel
    obtain ⟨b, off, rfl, hb, hc⟩ := B6.out.spot (by omega)
    have hlt : j < len := by omega
    have hcell := hc j hlt
    obtain ⟨y, hy⟩ : ∃ y, (l.getD j 0).toNat = y := ⟨_, rfl⟩
    have HY := hid hy
    by_cases hjt : j < tt
    · have hy128 : 128 ≤ y := by rw [← hy]; exact lowAt_ge (by rw [HLOW.out]; exact hjt)
      rw [hy] at hcell
      clear hy hc
      go_wp2
      go_round
      case rel => exact ⟨rfl, j + 1, by omega, by go_num⟩
      case measure => simp [intOf]; omega
    · obtain rfl : j = tt := by omega
      have hy128 : y < 128 := by rw [← hy, ← HLOW.out]; exact lowAt_lt (by rw [HLOW.out, HLEN.out]; exact hlt)
      rw [hy] at hcell
      have HC := hid hc
      clear hy hc
      go_wp2_with fail
      refine (same_any R6.out B6.out (by omega)).mono ?_
      rintro e w7 ⟨rfl, q, rfl⟩
      go_wp2
      go_ret
      exact ⟨rfl, HU.out.trans (Upd.drewN _ _ _)⟩

set_option maxRecDepth 100000 in
set_option maxHeartbeats 4000000 in
theorem reads_nine {D D' : Nat} {w : World} {ao ao' : Option Addr} {len cap len' cap' k : Nat} {l l' : List UInt8} (h : Bs D w ao len cap l) (h' : Bs D' w ao' len' cap' l') (hl : len ≤ 524288) (hl' : len' ≤ 524288) (hk : k ≤ len)
    (T : TypeId) (x : Value) (hG : w.cell? ⟨0, 0, none⟩ = some (.iface T x)) (htt : 9 < len) (hlow : lowAt l = 9) (hb9 : 1 < (l.getD 9 0).toNat) :
    Calls Tryd.prog 3 #[.slice ao len cap, .slice ao' len' cap', .int .i64 (k : Int)] w fun e w' => e = .returned (.bool true) ∧ Upd [] w w' := by
  have G := hid hG
  have H := hid h
  have H' := hid h'
  have HLEN := hid h.hlen
  have hterm := term_nine hlow hb9
  obtain ⟨tt, ht9⟩ : ∃ tt, 9 = tt := ⟨_, rfl⟩
  have HN := hid (nm_none hterm)
  have HNK1 := hid (congrArg Prod.fst (nm_take_none hterm k))
  have HNK2 := hid (congrArg (fun z => z.2.1) (nm_take_none hterm k))
  have HB9 := hid hb9
  have HLOW := hid (hlow.trans ht9)
  have HT9 := hid ht9
  have htt' : tt < len := by omega
  clear hlow hterm hb9 ht9 htt
  have t1 : decide (524288 < (len : Int)) = false := by simp; omega
  have t2 : decide (524288 < (len' : Int)) = false := by simp; omega
  have t3 : decide ((k : Int) < 0) = false := by simp
  have t4 : decide ((len : Int) < (k : Int)) = false := by simp; omega
  have t5 : decide (len < k) = false := by simp; omega
  clear hG h h'
  go_enter Tryd.func3, Tryd.ntmps3
  go_wp2_with (go_at_call 5; go_in)
  refine (clone_any H.out (by omega)).mono ?_
  rintro e w1 ⟨ao1, cap1, rfl, hb1, hu1⟩
  have G1 := gup G hu1
  have B1 := hid hb1; clear hb1
  have T1 := hid (bup H'.out hu1)
  go_wp2_with fail
  refine (clone_any T1.out (by omega)).mono ?_
  rintro e w2 ⟨ao2, cap2, rfl, hb2, hu2⟩
  have G2 := gup G1 hu2
  have T2 := hid hb2; clear hb2
  have B2 := hid (bup B1.out hu2)
  go_wp2_with fail
  refine (clone_any B2.out (by omega)).mono ?_
  rintro e w3 ⟨ao3, cap3, rfl, hb3, hu3⟩
  have G3 := gup G2 hu3
  have C3 := hid hb3; clear hb3
  have T3 := hid (bup T2.out hu3)
  have B3 := hid (bup B2.out hu3)
  go_wp2_with fail
  refine (zname_any C3.out (by omega) (Nat.le_refl _) T x G3.out).mono ?_
  rintro e w4 ⟨ao4, len4, cap4, er4, rfl, hb4, her4, hlen4, hu4⟩
  rw [HN.out] at hb4 her4
  rcases her4 with ⟨hh, _⟩ | ⟨_, Te4, v4, rfl⟩
  · cases hh
  rw [HN.out]
  have G4 := gup G3 hu4
  have R4 := hid hb4.top; clear hb4
  have T4' := hid (bup T3.out hu4)
  have B4 := hid (bup B3.out hu4)
  have hc1 := B4.out.hcap
  go_wp2_with fail
  refine (clone_any (B4.out.take k hk) (by omega)).mono ?_
  rintro e w5 ⟨ao5, cap5, rfl, hb5, hu5⟩
  have G5 := gup G4 hu5
  have C5 := hid hb5; clear hb5
  have T5' := hid (bup T4'.out hu5)
  have B5 := hid (bup B4.out hu5)
  have R5 := hid (bup R4.out hu5)
  go_wp2_with fail
  refine (zname_any C5.out (by omega) (Nat.le_refl _) T x G5.out).mono ?_
  rintro e w6 ⟨ao6, len6, cap6, er6, rfl, hb6, her6, hlen6, hu6⟩
  rcases her6 with ⟨hh, _⟩ | ⟨_, Te6, v6, rfl⟩
  · cases (HNK1.out.symm.trans hh)
  rw [HNK2.out]
  have G6 := gup G5 hu6
  have T6' := hid (bup T5'.out hu6)
  have B6 := hid (bup B5.out hu6)
  have R6 := hid (bup R5.out hu6)
  have Q6 := hid hb6.top
  have HU := hid (((((hu1.trans hu2).trans hu3).trans hu4).trans hu5).trans hu6)
  clear hb6 hu1 hu2 hu3 hu4 hu5 hu6
  go_wp2_with fail
  go_loop [13, 14] (fun t i => t = .int .i64 (-1) ∧ ∃ j : Nat, j ≤ tt ∧ i = .int .i64 j) (fun _ i => len - (intOf i).toNat)
  case atStart => exact ⟨rfl, 0, Nat.zero_le _, rfl⟩
  case round =>
    obtain ⟨rfl, j, hj, rfl⟩ := hrel
    obtain ⟨b, off, rfl, hb, hc⟩ := B6.out.spot (by omega)
    have hlt : j < len := by omega
    have hcell := hc j hlt
    obtain ⟨y, hy⟩ : ∃ y, (l.getD j 0).toNat = y := ⟨_, rfl⟩
    have HY := hid hy
    by_cases hjt : j < tt
    · have hy128 : 128 ≤ y := by rw [← hy]; exact lowAt_ge (by rw [HLOW.out]; exact hjt)
      rw [hy] at hcell
      clear hy hc
      go_wp2
      go_round
      case rel => exact ⟨rfl, j + 1, by omega, by go_num⟩
      case measure => simp [intOf]; omega
    · obtain rfl : j = tt := by omega
      have hy128 : y < 128 := by rw [← hy, ← HLOW.out]; exact lowAt_lt (by rw [HLOW.out, HLEN.out]; exact hlt)
      rw [hy] at hcell
      have HC := hid hc
      clear hy hc
      obtain rfl := HT9.out
      have hy1 : 1 < y := by rw [← HY.out]; exact HB9.out
      go_wp2_with fail
      refine (same_any R6.out B6.out (by omega)).mono ?_
      rintro e w7 ⟨rfl, q, rfl⟩
      go_wp2
      go_ret
      exact ⟨rfl, HU.out.trans (Upd.drewN _ _ _)⟩
end Go.Proofs.Qxb6616660aDoor
