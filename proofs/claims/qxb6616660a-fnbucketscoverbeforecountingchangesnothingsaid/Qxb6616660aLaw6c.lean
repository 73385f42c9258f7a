import Derived.Test.Qxb6616660aLaw6b
namespace Go.Proofs.Qxb6616660a
open Go.RowKit Go.Qm

theorem Two.new {w0 wa w : World} {gm bx bY : Nat} {md : List Nat} (hm : Blk wa gm (W64 md) 25) (u0 : Upd [] w0 wa) {w1 : World} (h1 : wa.heap.size ≤ bx) (x1 : BS w1 bx bx none) (u1 : Upd [] wa w1) (h2 : w1.heap.size ≤ bY) (y1 : BS w bY bY none) (u2 : Upd [] w1 w) :
    Two w0 w gm md bx bx bY bY none none := by
  have s0 := u0.size
  have s1 := u1.size
  have l1 := x1.lt
  have l2 := hm.lt
  refine ⟨x1.upd u2 (by simp) (by simp), y1, u2.blk (u1.blk hm (by simp)) (by simp), ?_, ?_, ?_, ?_, ?_, ?_, ?_, ?_, ?_, ?_, ?_, ?_, (u0.trans u1).trans u2⟩ <;> omega

theorem drewN_drewN (w : World) (a b : Nat) : (w.drewN a).drewN b = w.drewN (a + b) := by simp

set_option maxRecDepth 100000 in
set_option maxHeartbeats 4000000 in
theorem law6_main {w : World} {ao : Option Addr} {len cap : Nat} {aI : Nat → Int} {aN : Nat → Nat} (h : Ad w.heap.size w ao len aI aN) (lo hi : Int) (m1 m2 : Nat) (hl : len ≤ 65536) (hlh : lo ≤ hi) (mn mx : Int) (hmn : mnN lo aI len = mn) (hmx : mxN hi aI len = mx)
    (hw1 : -4611686018427387903 ≤ mn) (hw2 : mx ≤ 4611686018427387903) (hw3 : mx - mn < 65536) (hs : ∀ k, k < len → csN aI aN k (aI k) + aN k < 18446744073709551616)
    (q1 : csN aI aN len lo + m1 < 18446744073709551616) (q2 : bump (csN aI aN len) lo m1 hi + m2 < 18446744073709551616) :
    Calls Try.prog 6 #[.slice ao len cap, .int .i64 lo, .int .i64 hi, .int .u64 (m1 : Int), .int .u64 (m2 : Int)] w fun e w' => e = .returned (.bool true) ∧ Upd [] w w' := by
  have H := hid (bytes22 w ao len cap lo hi m1 m2 (by omega))
  have hb1 := (mn_le lo aI len).1
  have hb2 := (mx_ge hi aI len).1
  rw [hmn] at hb1
  rw [hmx] at hb2
  have hle : mn ≤ mx := by omega
  have HIN : Hid (∀ k, k < len → mn ≤ aI k ∧ aI k ≤ mx) := hid (fun k hk => ⟨by rw [← hmn]; exact (mn_le lo aI len).2 k hk, by rw [← hmx]; exact (mx_ge hi aI len).2 k hk⟩)
  have HW := hid (window_any (cap := cap) h hl lo hi mn mx hmn hmx true (by rw [decide_eq_true hw1, decide_eq_true hw2, decide_eq_true hw3]; rfl) hle)
  obtain ⟨M, hM⟩ : ∃ M : Nat, mx - mn + 1 = (M : Int) := ⟨(mx - mn + 1).toNat, by omega⟩
  have HM := hid (model_ok (cap := cap) h (Nat.le_refl _) hl mn mx M hM (by omega) hw1 hw2 HIN.out hs)
  obtain ⟨d1, hd1⟩ : ∃ d : Nat, lo - mn = (d : Int) := ⟨(lo - mn).toNat, by omega⟩
  obtain ⟨d2, hd2⟩ : ∃ d : Nat, hi - mn = (d : Int) := ⟨(hi - mn).toNat, by omega⟩
  have hd1M : d1 < M := by omega
  have hd2M : d2 < M := by omega
  have wd1 : IntKind.i64.wrap (d1 : Int) = (d1 : Int) := IntWalk.i64_in _ (by omega)
  have wd2 : IntKind.i64.wrap (d2 : Int) = (d2 : Int) := IntWalk.i64_in _ (by omega)
  have hc1 := cs_lt hs lo
  have hc2 := cs_lt hs hi
  have x1 : mn + d1 = lo := by omega
  have x2 : mn + d2 = hi := by omega
  have hc3 : bump (csN aI aN len) lo m1 hi < 18446744073709551616 := by unfold bump; split <;> assumption
  have HB1 := hid fun wx g hb => madd_mdl (w := wx) (g := g) (M := M) (mn := mn) (f := csN aI aN len) hb lo d1 m1 x1 hd1M hc1 q1
  have HB2 := hid fun wx g hb => madd_mdl (w := wx) (g := g) (M := M) (mn := mn) (f := bump (csN aI aN len) lo m1) hb hi d2 m2 x2 hd2M hc3 q2
  obtain ⟨p1, p2, p3, p4, p5, p6, p7⟩ := plain6 lo hi hlh aI aN len m1 m2
  rw [hmn] at p1 p3
  rw [hmx] at p2 p4
  have P1 := hid p1; have P2 := hid p2; have P3 := hid p3; have P4 := hid p4; have P5 := hid p5; have P6 := hid p6; have P7 := hid p7
  have HAD := hid h
  have HS := hid hs
  have Q1 := hid q1
  have Q2 := hid q2
  clear h hmn hmx hs q1 q2 hc1 hc2 hc3 x1 x2 p1 p2 p3 p4 p5 p6 p7
  go_enter Try.func6, Try.ntmps6
  go_wp2_with (first | (go_at_call 22; refine H.out.mono ?_; rintro e w1 ⟨rfl, rfl⟩) | (go_at_call 12; refine HW.out.mono ?_; rintro e w1 ⟨rfl, rfl⟩) | (go_at_call 13; refine HM.out.mono ?_; rintro e wa ⟨g, hg, rfl, b1, u1⟩))
  go_at_call 23
  refine (HB1.out _ _ b1).mono ?_
  rintro e wb ⟨rfl, b2, u2⟩
  go_wp2_with (go_at_call 23; refine (HB2.out _ _ b2).mono ?_; rintro e wc ⟨rfl, b3, u3⟩)
  go_at_call 14
  refine (znew _).mono ?_
  rintro e wd ⟨bx, hbx, rfl, hx, ux⟩
  go_wp2_with (go_at_call 14; refine (znew _).mono ?_; rintro e we ⟨bY, hbY, rfl, hy, uy⟩)
  have T0 := Two.new b3 ((u1.trans' u2 (by simp [hg])).trans' u3 (by simp [hg])) hbx hx ux hbY hy uy
  clear hd1 hd2 wd1 wd2 hd1M hd2M
  have hadd := HAD.out
  have TT := hid T0
  clear T0 b1 b2 b3 u1 u2 u3 hx hy ux uy hbx hbY
  obtain ⟨md, hmd⟩ : ∃ md, mdl mn M (bump (bump (csN aI aN len) lo m1) hi m2) = md := ⟨_, rfl⟩
  rw [hmd] at TT
  have HMD := hid hmd
  clear hmd HB1 HB2 HM HW H
  go_loopw [17] (fun i wr => ∃ k gx gy : Nat, k ≤ len ∧ i = .int .i64 k ∧ Two w1 wr g md bx gx bY gy (stN aI aN k) (stN aI aN k)) (fun i _ => len - (intOf i).toNat)
  case atStart => exact ⟨0, bx, bY, Nat.zero_le _, rfl, TT.out⟩
  case round =>
    obtain ⟨k, gx, gy, hk, rfl, T⟩ := hrel
    clear TT
    by_cases hlt : k < len
    · obtain ⟨b, off, ha, hb, hc⟩ := hadd.spot (by omega)
      cases ha
      obtain ⟨c1, c2⟩ := hc k hlt
      obtain ⟨k1, k2⟩ := HIN.out k hlt
      have hv := HS.out k hlt
      have hfi := st_fi aI aN k
      have hIW := InW.stN (aN := aN) HIN.out k (by omega)
      rw [← st_cnt] at hv
      have e1 : wr.cell? ⟨b, off + k * 2, none⟩ = some (.int .i64 (aI k)) := by
        rw [← c1]; exact World.cell?_of_block (T.u.block b hb (by simp))
      have e2 : wr.cell? ⟨b, off + k * 2 + 1, none⟩ = some (.int .u64 (aN k : Int)) := by
        rw [← c2]; exact World.cell?_of_block (T.u.block b hb (by simp))
      obtain ⟨x, hxx⟩ : ∃ x, aI k = x := ⟨_, rfl⟩
      obtain ⟨n, hnn⟩ : ∃ n, aN k = n := ⟨_, rfl⟩
      rw [hxx] at e1 k1 k2 hv
      rw [hnn] at e2 hv
      obtain ⟨s, hss⟩ : ∃ s, stN aI aN k = s := ⟨_, rfl⟩
      rw [hss] at hv hIW T hfi
      have hst : stN aI aN (k + 1) = some (step s x n) := by show some (step _ _ _) = _; rw [hss, hxx, hnn]
      have HST := hid hst
      have HV := hid hv
      have HIW := hid hIW
      have HFI : Hid (0 ≤ fiO s ∧ fiO s ≤ 1000000000) := hid ⟨hfi.1, by omega⟩
      have HT := hid T
      have nb1 : b ∉ [bx, gx] := by have := T.n1; have := T.n2; simp; omega
      have nb2 : b ∉ [bY, gy] := by have := T.n3; have := T.n4; simp; omega
      have NB1 := hid nb1
      have NB2 := hid nb2
      have hbs : b < wr.heap.size := Nat.lt_of_lt_of_le hb T.u.size
      clear hst hv hIW hfi T hc c1 c2 hxx hnn hss nb1 nb2 hadd
      go_wp2
      go_region_held3 (fun w' => w'.cell? ⟨b, off + k * 2, none⟩ = some (.int .i64 x) ∧ w'.cell? ⟨b, off + k * 2 + 1, none⟩ = some (.int .u64 n)) (simp [go_sem, *])
        (first
          | (go_at_call 15; refine (zadd_in (BS.heap HT.out.x (by rfl)) HIW.out x n k1 k2 hw3 hw1 hw2 HV.out HFI.out.1 HFI.out.2).mono ?_; rintro e w2 ⟨rfl, g2, hg2, bs2, u2⟩
             have g1 : w2.cell? ⟨b, off + k * 2, none⟩ = some (.int .i64 x) := by
               rw [← e1]; exact World.cell?_of_block (u2.block b hbs NB1.out)
             have g2' : w2.cell? ⟨b, off + k * 2 + 1, none⟩ = some (.int .u64 n) := by
               rw [← e2]; exact World.cell?_of_block (u2.block b hbs NB1.out)))
      have T2 := hid ((HT.out.heap (w' := wr.drew) rfl (Upd.drew _ _)).stepx hg2 bs2 u2)
      have hbs2 : b < w2.heap.size := Nat.lt_of_lt_of_le hbs (u2.size)
      clear HT hg2 bs2 u2 e1 e2 NB1 hbs
      go_wp2
      go_region_held3 (fun w' => w'.cell? ⟨b, off + k * 2, none⟩ = some (.int .i64 x) ∧ w'.cell? ⟨b, off + k * 2 + 1, none⟩ = some (.int .u64 n)) (simp [go_sem, *])
        (first
          | (go_at_call 15; refine (zadd_in (BS.heap T2.out.y (by rfl)) HIW.out x n k1 k2 hw3 hw1 hw2 HV.out HFI.out.1 HFI.out.2).mono ?_; rintro e w3 ⟨rfl, g3, hg3, bs3, u3⟩
             have f1 : w3.cell? ⟨b, off + k * 2, none⟩ = some (.int .i64 x) := by
               rw [← g1]; exact World.cell?_of_block (u3.block b hbs2 NB2.out)
             have f2 : w3.cell? ⟨b, off + k * 2 + 1, none⟩ = some (.int .u64 n) := by
               rw [← g2']; exact World.cell?_of_block (u3.block b hbs2 NB2.out)))
      go_wp2
      go_roundw
      case rel =>
        refine ⟨k + 1, g2, g3, hlt, by go_num, ?_⟩
        rw [HST.out]
        exact (T2.out.heap (w' := w2.drew) rfl (Upd.drew _ _)).stepy hg3 bs3 u3
      case measure => simp [intOf]; omega
    · obtain rfl : k = len := by omega
      have hfi := st_fi aI aN k
      have hIW := InW.stN (aN := aN) HIN.out k (Nat.le_refl _)
      have hcs := st_cnt aI aN k
      obtain ⟨s, hss⟩ : ∃ s, stN aI aN k = s := ⟨_, rfl⟩
      rw [hss] at T hfi hIW hcs P1 P2 P3 P4 P5 P6 P7
      rw [← hcs] at Q1 Q2
      have IW1 := hid (hIW.cov hb1 hb2 hlh)
      have IW2 := hid (IW1.out.step (n := m1) hb1 (by omega : lo ≤ mx))
      have IW0 := hid hIW
      have IY2 := hid (hIW.step (n := m1) hb1 (by omega : lo ≤ mx))
      have hcov : cntO (some (covS lo hi s)) = cntO s := by cases s <;> rfl
      have hfov : fiO (some (covS lo hi s)) = fiO s := by cases s <;> rfl
      have k1 : cntO (some (step (some (covS lo hi s)) lo m1)) = bump (cntO s) lo m1 := by show (step _ _ _).cnt = _; rw [cnt_step, hcov]
      have k2 : cntO (some (step s lo m1)) = bump (cntO s) lo m1 := by show (step _ _ _).cnt = _; rw [cnt_step]
      have f1 : fiO (some (step (some (covS lo hi s)) lo m1)) = fill (cntO s) (fiO s) lo := by show (step _ _ _).fi = _; rw [fi_step, hcov, hfov]
      have f2 : fiO (some (step s lo m1)) = fill (cntO s) (fiO s) lo := by show (step _ _ _).fi = _; rw [fi_step]
      have hfl := fill_le (cntO s) (fiO s) lo
      have A1 : Hid (cntO (some (covS lo hi s)) lo + m1 < 18446744073709551616 ∧ 0 ≤ fiO (some (covS lo hi s)) ∧ fiO (some (covS lo hi s)) ≤ 1000000000) := hid ⟨by rw [hcov]; exact Q1.out, by rw [hfov]; omega, by rw [hfov]; omega⟩
      have A2 : Hid (cntO (some (step (some (covS lo hi s)) lo m1)) hi + m2 < 18446744073709551616 ∧ 0 ≤ fiO (some (step (some (covS lo hi s)) lo m1)) ∧ fiO (some (step (some (covS lo hi s)) lo m1)) ≤ 1000000000) := hid ⟨by rw [k1]; exact Q2.out, by rw [f1]; omega, by rw [f1]; omega⟩
      have A3 : Hid (cntO s lo + m1 < 18446744073709551616 ∧ 0 ≤ fiO s ∧ fiO s ≤ 1000000000) := hid ⟨Q1.out, by omega, by omega⟩
      have A4 : Hid (cntO (some (step s lo m1)) hi + m2 < 18446744073709551616 ∧ 0 ≤ fiO (some (step s lo m1)) ∧ fiO (some (step s lo m1)) ≤ 1000000000) := hid ⟨by rw [k2]; exact Q2.out, by rw [f2]; omega, by rw [f2]; omega⟩
      have hlo2 : lo ≤ mx := by omega
      have hhi2 : mn ≤ hi := by omega
      clear hcov hfov k1 k2 f1 f2 hfl hfi hIW hcs hss Q1 Q2 hadd
      go_wp2_with (go_at_call 17; refine (zcover_bs T.x IW0.out lo hi hb1 hb2 hlh hw3 hw1 hw2).mono ?_; rintro e v1 ⟨rfl, g1, hg1, bs1, u1⟩)
      have T1 := T.stepx hg1 bs1 u1
      clear T hg1 bs1 u1
      go_at_call 15
      refine (zadd_in T1.x IW1.out lo m1 hb1 hlo2 hw3 hw1 hw2 A1.out.1 A1.out.2.1 A1.out.2.2).mono ?_
      rintro e v2 ⟨rfl, g2, hg2, bs2, u2⟩
      have T2 := T1.stepx hg2 bs2 u2
      clear T1 hg2 bs2 u2
      go_wp2_with (fail)
      go_at_call 15
      refine (zadd_in T2.x IW2.out hi m2 hhi2 hb2 hw3 hw1 hw2 A2.out.1 A2.out.2.1 A2.out.2.2).mono ?_
      rintro e v3 ⟨rfl, g3, hg3, bs3, u3⟩
      have T3 := T2.stepx hg3 bs3 u3
      clear T2 hg3 bs3 u3
      go_wp2_with (fail)
      go_at_call 15
      refine (zadd_in T3.y IW0.out lo m1 hb1 hlo2 hw3 hw1 hw2 A3.out.1 A3.out.2.1 A3.out.2.2).mono ?_
      rintro e v4 ⟨rfl, g4, hg4, bs4, u4⟩
      have T4 := T3.stepy hg4 bs4 u4
      clear T3 hg4 bs4 u4
      go_wp2_with (fail)
      go_at_call 15
      refine (zadd_in T4.y IY2.out hi m2 hhi2 hb2 hw3 hw1 hw2 A4.out.1 A4.out.2.1 A4.out.2.2).mono ?_
      rintro e v5 ⟨rfl, g5, hg5, bs5, u5⟩
      have T5 := T4.stepy hg5 bs5 u5
      clear T4 hg5 bs5 u5 A1 A2 A3 A4 IW0 IW1 IW2 IY2
      obtain ⟨X, hX⟩ : ∃ X, step (some (step (some (covS lo hi s)) lo m1)) hi m2 = X := ⟨_, rfl⟩
      obtain ⟨Y, hY⟩ : ∃ Y, step (some (step s lo m1)) hi m2 = Y := ⟨_, rfl⟩
      rw [hX] at T5 P1 P2 P5 P6
      rw [hY] at T5 P3 P4 P5 P7
      obtain ⟨ox, Lx, wx, blx, kx⟩ := T5.x
      obtain ⟨oy, Ly, wy, bly, ky⟩ := T5.y
      rw [P1.out, P2.out, P5.out, P6.out] at kx
      rw [P3.out, P4.out, P7.out] at ky
      have x5 : v5.cell? ⟨bx, 5, none⟩ = some (.int .i64 mn) := kx.blk8.cellv rfl
      have x6 : v5.cell? ⟨bx, 6, none⟩ = some (.int .i64 mx) := kx.blk8.cellv rfl
      have x7 : v5.cell? ⟨bx, 7, none⟩ = some (.int .i64 Y.fi) := kx.blk8.cellv rfl
      have y5 : v5.cell? ⟨bY, 5, none⟩ = some (.int .i64 mn) := ky.blk8.cellv rfl
      have y6 : v5.cell? ⟨bY, 6, none⟩ = some (.int .i64 mx) := ky.blk8.cellv rfl
      have y7 : v5.cell? ⟨bY, 7, none⟩ = some (.int .i64 Y.fi) := ky.blk8.cellv rfl
      obtain ⟨f, hf⟩ : ∃ f, bump (bump (csN aI aN k) lo m1) hi m2 = f := ⟨_, rfl⟩
      rw [hf] at kx ky HMD
      rw [← HMD.out] at T5
      have KX := hid kx
      have KY := hid ky
      have TM := hid T5.m
      have TU := hid T5.u
      have HF := hid hf
      clear hX hY kx ky T5 hf HMD
      obtain ⟨fi, hfi⟩ : ∃ fi, Y.fi = fi := ⟨_, rfl⟩
      rw [hfi] at x7 y7 KX KY
      clear P1 P2 P3 P4 P5 P6 P7 hfi
      have tmn : (mn != mn) = false := by simp
      have tmx : (mx != mx) = false := by simp
      have tfi : (fi != fi) = false := by simp
      go_wp2_with (fail)
      go_at_call 20
      refine (zlohi x5 x6).mono ?_
      rintro e v6 ⟨rfl, r6, rfl⟩
      go_wp2_with (fail)
      go_at_call 20
      refine (zlohi (w := v5.drewN r6) y5 y6).mono ?_
      rintro e v7 ⟨rfl, r7, rfl⟩
      go_wp2_with (fail)
      go_at_call 16
      refine (zfilled (w := v5.drewN (r6 + r7)) x7).mono ?_
      rintro e v8 ⟨rfl, r8, rfl⟩
      go_wp2_with (fail)
      go_at_call 16
      refine (zfilled (w := v5.drewN (r6 + r7 + r8)) y7).mono ?_
      rintro e v9 ⟨rfl, r9, rfl⟩
      obtain ⟨V, hV⟩ : ∃ V, (v5.drewN (r6 + r7 + r8)).drewN r9 = V := ⟨_, rfl⟩
      rw [hV]
      have GX : Hid (Bk V bx ox mn mx fi Lx f g3 wx blx) := hid (KX.out.heap (by rw [← hV]; rfl))
      have GY : Hid (Bk V bY oy mn mx fi Ly f g5 wy bly) := hid (KY.out.heap (by rw [← hV]; rfl))
      have GM : Hid (Blk V g (W64 (mdl mn M f)) 25) := hid (Blk_heap TM.out (by rw [← hV]; rfl))
      have GU : Hid (Upd [] w1 V) := hid (by rw [← hV]; exact (TU.out.trans (Upd.drewN _ _ _)).trans (Upd.drewN _ _ _))
      clear KX KY TM TU hV x5 x6 x7 y5 y6 y7
      go_wp2
      have wM : IntKind.i64.wrap (mx - mn) = mx - mn := IntWalk.i64_in _ (by omega)
      go_loopw [22] (fun i wr => ∃ d q : Nat, d ≤ M ∧ i = .int .i64 d ∧ wr = V.drewN q) (fun i _ => M - (intOf i).toNat)
      case atStart => exact ⟨0, 0, Nat.zero_le _, rfl, rfl⟩
      case round =>
        obtain ⟨d, q, hd, rfl, hwr0⟩ := hrel
        have HWR := hid hwr0
        have NX : Hid (Bk wr bx ox mn mx fi Lx f g3 wx blx) := hid (GX.out.heap (by rw [hwr0]; rfl))
        have NY : Hid (Bk wr bY oy mn mx fi Ly f g5 wy bly) := hid (GY.out.heap (by rw [hwr0]; rfl))
        have NM : Hid (Blk wr g (W64 (mdl mn M f)) 25) := hid (Blk_heap GM.out (by rw [hwr0]; rfl))
        clear hwr0
        by_cases hdl : d < M
        · have tl : decide ((d : Int) ≤ mx - mn) = true := by simp; omega
          have wd : IntKind.i64.wrap (mn + (d : Int)) = mn + (d : Int) := IntWalk.i64_in _ (by omega)
          have hx2 := NX.out.olo
          have hx3 := NX.out.hiL
          have hy2 := NY.out.olo
          have hy3 := NY.out.hiL
          obtain ⟨n, hn⟩ : ∃ n, f (mn + d) = n := ⟨_, rfl⟩
          have CX := hid fun wz e => zcount (NX.out.heap (w' := wz) e) (mn + d) (by omega) (by omega) n hn
          have CY := hid fun wz e => zcount (NY.out.heap (w' := wz) e) (mn + d) (by omega) (by omega) n hn
          have cm : wr.cell? ⟨g, d, none⟩ = some (.int .u64 (n : Int)) := by
            rw [← hn, ← mdl_get mn M f d hdl]; exact NM.out.cellv (W64_get _ d (by rw [mdl_len]; exact hdl))
          have tn : ((n : Int) != (n : Int)) = false := by simp
          clear hx2 hx3 hy2 hy3 hn
          go_wp2
          go_quiet ((go_at_call 21; first | refine Calls.quiet_of (CX.out _ (by rfl)) | refine Calls.quiet_of (CY.out _ (by rfl))))
          go_wp2
          go_roundw
          case rel => exact ⟨d + 1, _, hdl, by go_num, by rw [HWR.out]; exact drewN_drewN _ _ _⟩
          case measure => simp [intOf]; omega
        · have tl : decide ((d : Int) ≤ mx - mn) = false := by simp; omega
          go_wp2
          go_ret
          exact ⟨rfl, by rw [HWR.out]; exact GU.out.trans (Upd.drewN _ _ _)⟩
end Go.Proofs.Qxb6616660a
