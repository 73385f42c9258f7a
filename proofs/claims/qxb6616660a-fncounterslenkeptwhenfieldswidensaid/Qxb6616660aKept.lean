import Derived.Test.Qxb6616660aAdd
namespace Go.Proofs.Qxb6616660a
open Go.RowKit Go.Qm

set_option maxRecDepth 100000 in
set_option maxHeartbeats 2000000 in
theorem keptSame (n bl j v1 v2 : Nat) (w : World) (hn1 : 1 ≤ n) (hn : n ≤ 65536) (h3 : 3 ≤ bl) (h6 : bl ≤ 6) (hj : j < n) (hv1 : v1 < 18446744073709551616) (hv2 : v2 < 18446744073709551616) (hvv : v1 + v2 < 18446744073709551616) :
    Calls Try.prog 4 #[.int .i64 (n : Int), .int .u8 (bl : Int), .int .i64 (j : Int), .int .u64 (v1 : Int), .int .i64 (j : Int), .int .u64 (v2 : Int)] w fun e w' => e = .returned (.bool true) ∧ Below w.heap.size w w' := by
  obtain ⟨m, hm⟩ : ∃ m, (n + per bl - 1) / per bl = m := ⟨_, rfl⟩
  obtain ⟨l, hl⟩ : ∃ l, m * per bl = l := ⟨_, rfl⟩
  have hnl : n ≤ l ∧ l ≤ n + 8 := by
    subst hl hm
    rcases bl_cases h3 h6 with rfl | rfl | rfl | rfl <;> simp [per] <;> omega
  obtain ⟨hnl1, hnl2⟩ := hnl
  have H1 := hid fun wx => zmake_any n m bl wx h3 h6 (by omega) hm
  have HL := hid hl
  have t1 : decide (l < n) = false := by simp; omega
  have t2 : decide ((l : Int) < n) = false := by simp; omega
  have t3 : ((j : Int) == (j : Int)) = true := by simp
  have t4 : decide ((18446744073709551615 : Int) - (v1 : Int) < (v2 : Int)) = false := by simp; omega
  have t5 : ((v1 : Int) != (v1 : Int)) = false := by simp
  clear hm hl
  go_enter Try.func4, Try.ntmps4
  go_wp2_with (first | (go_at_call 7; refine (H1.out _).mono ?_; rintro e w1 ⟨b, g, hb, hg, rfl, hcn, hupd⟩) | (go_at_call 8; refine (zlen_any hcn l (by rw [List.length_replicate]; exact HL.out)).mono ?_; rintro e w2 ⟨rfl, q, rfl⟩))
  have hgw := hcn.row.lt
  refine (zadd_any (hcn.drewN q) j v1 l 0 (by rw [List.length_replicate]; exact HL.out) (by omega) (by omega) (fld_zero _ _ _) (by omega)).mono ?_
  rintro e w3 ⟨rfl, g1, ws1, bl1, hcn1, hl1, hf1, hu1, hg1⟩
  have hz : ∀ j', j' < l → fld bl1 ws1 j' = if j' = j then v1 else 0 := fun j' hj' => by
    rw [hf1 j' hj', fld_zero, fld_zero, Nat.zero_add]
  have HZ := hid hz
  clear hf1 hz
  go_wp2_with fail
  refine (zadd_any hcn1 j v2 l v1 hl1 (by omega) (by omega) (by rw [HZ.out j (by omega)]; simp) (by omega)).mono ?_
  rintro e w4 ⟨rfl, g2, ws2, bl2, hcn2, hl2, hf2, hu2, hg2⟩
  have hw : ∀ j', j' < l → fld bl2 ws2 j' = if j' = j then v1 + v2 else 0 := fun j' hj' => by
    rw [hf2 j' hj', HZ.out j' hj', HZ.out j (by omega)]
    by_cases e : j' = j
    · rw [if_pos e, if_pos rfl, if_pos e]
    · rw [if_neg e, if_neg e, if_neg e]
  have HW := hid hw
  have hsz1 := hu1.size
  have hg1' : w.heap.size ≤ g1 := by
    have hs := hupd.size
    have e : (w1.drewN q).heap.size = w1.heap.size := rfl
    rcases hg1 with h | h
    · rw [h]; exact hg
    · omega
  have hu3 : Upd [] w w4 := by
    have a1 : Upd [] w (w1.drewN q) := hupd.trans (Upd.drewN _ _ _)
    have a2 : Upd [] w w3 := a1.trans' hu1 (by intro x hx; simp at hx; rcases hx with rfl | rfl <;> exact Or.inr (by omega))
    refine a2.trans' hu2 (by intro x hx; simp at hx; rcases hx with rfl | rfl <;> exact Or.inr (by omega))
  have HU3 := hid hu3
  clear hf2 hw hu1 hu2 hupd hg1 hg2
  have t9 : ((l : Int) != (l : Int)) = false := by simp
  go_wp2_with (go_at_call 8; refine (zlen_any hcn2 l hl2).mono ?_; rintro e w5 ⟨rfl, q5, rfl⟩)
  go_loopw [18] (fun i wr => ∃ k : Nat, k ≤ l ∧ i = .int .i64 k ∧ ∃ q, wr = w4.drewN q) (fun i _ => l - (intOf i).toNat)
  case atStart => exact ⟨0, Nat.zero_le _, rfl, _, rfl⟩
  case round =>
    obtain ⟨k, hk, rfl, q6, rfl⟩ := hrel
    by_cases hlt : k < l
    · have hwk := HW.out k hlt
      by_cases e : k = j
      · subst e
        rw [if_pos rfl] at hwk
        have HK := hid hwk
        have g1 : ((k : Int) == (k : Int)) = true := by simp
        have g2 : (((v1 + v2 : Nat) : Int) != (v1 : Int) + (v2 : Int)) = false := by simp
        clear hwk
        go_wp2_with (go_at_call 9; refine (zat_any (hcn2.drewN q6) k (by rw [hl2]; exact hlt) _ HK.out).mono ?_; rintro e w2 ⟨rfl, q7, rfl⟩)
        go_roundw
        case rel => exact ⟨k + 1, by omega, by go_num, _, rfl⟩
        case measure => simp [intOf]; omega
      · rw [if_neg e] at hwk
        have HK := hid hwk
        have g1 : ((k : Int) == (j : Int)) = false := by simp; omega
        clear hwk
        go_wp2_with (go_at_call 9; refine (zat_any (hcn2.drewN q6) k (by rw [hl2]; exact hlt) _ HK.out).mono ?_; rintro e w2 ⟨rfl, q7, rfl⟩)
        go_roundw
        case rel => exact ⟨k + 1, by omega, by go_num, _, rfl⟩
        case measure => simp [intOf]; omega
    · go_wp2
      go_ret
      exact ⟨rfl, (HU3.out.trans (Upd.drewN _ _ q6)).below (Nat.le_refl _) (by simp)⟩

set_option maxRecDepth 100000 in
set_option maxHeartbeats 2000000 in
theorem keptApart (n bl j1 v1 j2 v2 : Nat) (w : World) (hn1 : 1 ≤ n) (hn : n ≤ 65536) (h3 : 3 ≤ bl) (h6 : bl ≤ 6) (hj1 : j1 < n) (hj2 : j2 < n) (hne : j1 ≠ j2) (hv1 : v1 < 18446744073709551616) (hv2 : v2 < 18446744073709551616) :
    Calls Try.prog 4 #[.int .i64 (n : Int), .int .u8 (bl : Int), .int .i64 (j1 : Int), .int .u64 (v1 : Int), .int .i64 (j2 : Int), .int .u64 (v2 : Int)] w fun e w' => e = .returned (.bool true) ∧ Below w.heap.size w w' := by
  obtain ⟨m, hm⟩ : ∃ m, (n + per bl - 1) / per bl = m := ⟨_, rfl⟩
  obtain ⟨l, hl⟩ : ∃ l, m * per bl = l := ⟨_, rfl⟩
  have hnl : n ≤ l ∧ l ≤ n + 8 := by
    subst hl hm
    rcases bl_cases h3 h6 with rfl | rfl | rfl | rfl <;> simp [per] <;> omega
  obtain ⟨hnl1, hnl2⟩ := hnl
  have H1 := hid fun wx => zmake_any n m bl wx h3 h6 (by omega) hm
  have HL := hid hl
  have t1 : decide (l < n) = false := by simp; omega
  have t2 : decide ((l : Int) < n) = false := by simp; omega
  have t3 : ((j1 : Int) == (j2 : Int)) = false := by simp; omega
  clear hm hl
  go_enter Try.func4, Try.ntmps4
  go_wp2_with (first | (go_at_call 7; refine (H1.out _).mono ?_; rintro e w1 ⟨b, g, hb, hg, rfl, hcn, hupd⟩) | (go_at_call 8; refine (zlen_any hcn l (by rw [List.length_replicate]; exact HL.out)).mono ?_; rintro e w2 ⟨rfl, q, rfl⟩))
  have hgw := hcn.row.lt
  refine (zadd_any (hcn.drewN q) j1 v1 l 0 (by rw [List.length_replicate]; exact HL.out) (by omega) (by omega) (fld_zero _ _ _) (by omega)).mono ?_
  rintro e w3 ⟨rfl, g1, ws1, bl1, hcn1, hl1, hf1, hu1, hg1⟩
  have hz : ∀ j', j' < l → fld bl1 ws1 j' = if j' = j1 then v1 else 0 := fun j' hj' => by
    rw [hf1 j' hj', fld_zero, fld_zero, Nat.zero_add]
  have HZ := hid hz
  clear hf1 hz
  go_wp2_with fail
  refine (zadd_any hcn1 j2 v2 l 0 hl1 (by omega) (by omega) (by rw [HZ.out j2 (by omega)]; rw [if_neg (fun h => hne h.symm)]) (by omega)).mono ?_
  rintro e w4 ⟨rfl, g2, ws2, bl2, hcn2, hl2, hf2, hu2, hg2⟩
  have hw : ∀ j', j' < l → fld bl2 ws2 j' = if j' = j2 then v2 else if j' = j1 then v1 else 0 := fun j' hj' => by
    rw [hf2 j' hj', HZ.out j' hj', HZ.out j2 (by omega)]
    by_cases e : j' = j2
    · rw [if_pos e, if_pos e, if_neg (fun h => hne h.symm), Nat.zero_add]
    · rw [if_neg e, if_neg e]
  have HW := hid hw
  have hsz1 := hu1.size
  have hg1' : w.heap.size ≤ g1 := by
    have hs := hupd.size
    have e : (w1.drewN q).heap.size = w1.heap.size := rfl
    rcases hg1 with h | h
    · rw [h]; exact hg
    · omega
  have hu3 : Upd [] w w4 := by
    have a1 : Upd [] w (w1.drewN q) := hupd.trans (Upd.drewN _ _ _)
    have a2 : Upd [] w w3 := a1.trans' hu1 (by intro x hx; simp at hx; rcases hx with rfl | rfl <;> exact Or.inr (by omega))
    refine a2.trans' hu2 (by intro x hx; simp at hx; rcases hx with rfl | rfl <;> exact Or.inr (by omega))
  have HU3 := hid hu3
  clear hf2 hw hu1 hu2 hupd hg1 hg2
  have t9 : ((l : Int) != (l : Int)) = false := by simp
  go_wp2_with (go_at_call 8; refine (zlen_any hcn2 l hl2).mono ?_; rintro e w5 ⟨rfl, q5, rfl⟩)
  go_loopw [18] (fun i wr => ∃ k : Nat, k ≤ l ∧ i = .int .i64 k ∧ ∃ q, wr = w4.drewN q) (fun i _ => l - (intOf i).toNat)
  case atStart => exact ⟨0, Nat.zero_le _, rfl, _, rfl⟩
  case round =>
    obtain ⟨k, hk, rfl, q6, rfl⟩ := hrel
    by_cases hlt : k < l
    · have hwk := HW.out k hlt
      by_cases e2 : k = j2
      · subst e2
        rw [if_pos rfl] at hwk
        have HK := hid hwk
        have g1 : ((k : Int) == (k : Int)) = true := by simp
        have g2 : ((k : Int) == (j1 : Int)) = false := by simp; omega
        have g3 : ((v2 : Int) != (v2 : Int)) = false := by simp
        clear hwk
        go_wp2_with (go_at_call 9; refine (zat_any (hcn2.drewN q6) k (by rw [hl2]; exact hlt) _ HK.out).mono ?_; rintro e w2 ⟨rfl, q7, rfl⟩)
        go_roundw
        case rel => exact ⟨k + 1, by omega, by go_num, _, rfl⟩
        case measure => simp [intOf]; omega
      · rw [if_neg e2] at hwk
        by_cases e1 : k = j1
        · subst e1
          rw [if_pos rfl] at hwk
          have HK := hid hwk
          have g1 : ((k : Int) == (k : Int)) = true := by simp
          have g2 : ((k : Int) == (j2 : Int)) = false := by simp; omega
          have g3 : ((v1 : Int) != (v1 : Int)) = false := by simp
          clear hwk
          go_wp2_with (go_at_call 9; refine (zat_any (hcn2.drewN q6) k (by rw [hl2]; exact hlt) _ HK.out).mono ?_; rintro e w2 ⟨rfl, q7, rfl⟩)
          go_roundw
          case rel => exact ⟨k + 1, by omega, by go_num, _, rfl⟩
          case measure => simp [intOf]; omega
        · rw [if_neg e1] at hwk
          have HK := hid hwk
          have g1 : ((k : Int) == (j1 : Int)) = false := by simp; omega
          have g2 : ((k : Int) == (j2 : Int)) = false := by simp; omega
          clear hwk
          go_wp2_with (go_at_call 9; refine (zat_any (hcn2.drewN q6) k (by rw [hl2]; exact hlt) _ HK.out).mono ?_; rintro e w2 ⟨rfl, q7, rfl⟩)
          go_roundw
          case rel => exact ⟨k + 1, by omega, by go_num, _, rfl⟩
          case measure => simp [intOf]; omega
    · go_wp2
      go_ret
      exact ⟨rfl, (HU3.out.trans (Upd.drewN _ _ q6)).below (Nat.le_refl _) (by simp)⟩
end Go.Proofs.Qxb6616660a
