import Derived.Test.Qxb6616660aLaw5
namespace Go.Proofs.Qxb6616660a
open Go.RowKit Go.Qm

/-- A run and the model, apart from each other and from what stood in w0. -/
structure One (w0 w : World) (gm : Nat) (md : List Nat) (bx gx : Nat) (sx : Option St) : Prop where
  x : BS w bx gx sx
  m : Blk w gm (W64 md) 25
  m1 : gm ≠ bx
  m2 : gm ≠ gx
  n1 : w0.heap.size ≤ bx
  n2 : w0.heap.size ≤ gx
  u : Upd [] w0 w
section
variable {w0 w w' : World} {gm bx gx : Nat} {md : List Nat} {sx : Option St}
theorem One.heap (h : One w0 w gm md bx gx sx) (e : w'.heap = w.heap) (hu : Upd [] w w') : One w0 w' gm md bx gx sx :=
  ⟨h.x.heap e, Blk_heap h.m e, h.m1, h.m2, h.n1, h.n2, h.u.trans hu⟩
theorem One.step (h : One w0 w gm md bx gx sx) {g' : Nat} {s' : Option St} (hg : g' = gx ∨ w.heap.size ≤ g') (hx : BS w' bx g' s') (hu : Upd [bx, gx] w w') : One w0 w' gm md bx g' s' := by
  have l2 := h.m.lt
  have s0 := h.u.size
  refine ⟨hx, hu.blk h.m (by simp [h.m1, h.m2]), h.m1, ?_, h.n1, ?_, h.u.trans' hu (by
    intro z hz
    simp at hz
    rcases hz with rfl | rfl
    · exact Or.inr h.n1
    · exact Or.inr h.n2)⟩
  · rcases hg with rfl | hg
    · exact h.m2
    · omega
  · rcases hg with rfl | hg
    · exact h.n2
    · omega
end
theorem One.new {w0 wa w : World} {gm bx : Nat} {md : List Nat} (hm : Blk wa gm (W64 md) 25) (u0 : Upd [] w0 wa) (h1 : wa.heap.size ≤ bx) (x1 : BS w bx bx none) (u1 : Upd [] wa w) : One w0 w gm md bx bx none := by
  have s0 := u0.size
  have s1 := u1.size
  have l2 := hm.lt
  refine ⟨x1, u1.blk hm (by simp), ?_, ?_, ?_, ?_, u0.trans u1⟩ <;> omega
theorem BS.fi {w : World} {b g : Nat} {s : Option St} (h : BS w b g s) : w.cell? ⟨b, 7, none⟩ = some (.int .i64 (fiO s)) := by
  cases s with
  | none => exact Blk.cellv h.1 rfl
  | some s => obtain ⟨off, L, ws, bl, k⟩ := h; exact k.blk8.cellv rfl
theorem drewN_add (w : World) (a b : Nat) : (w.drewN a).drewN b = w.drewN (a + b) := by simp

set_option maxRecDepth 100000 in
set_option maxHeartbeats 4000000 in
theorem law5_none {w : World} {ao : Option Addr} {len cap : Nat} {aI : Nat → Int} {aN : Nat → Nat} (h : Ad w.heap.size w ao len aI aN) (lo hi : Int) (hl : len ≤ 65536) (hl0 : len = 0) (hlh : lo ≤ hi) (mn mx : Int) (hmn : mnN lo aI len = mn) (hmx : mxN hi aI len = mx)
    (hw1 : -4611686018427387903 ≤ mn) (hw2 : mx ≤ 4611686018427387903) (hw3 : mx - mn < 65536) (hs : ∀ k, k < len → csN aI aN k (aI k) + aN k < 18446744073709551616) :
    Calls Try.prog 5 #[.slice ao len cap, .int .i64 lo, .int .i64 hi] w fun e w' => e = .returned (.bool true) ∧ Upd [] w w' := by
  have H := hid (bytes11 w ao len cap lo hi (by omega))
  have hb1 := (mn_le lo aI len).1
  have hb2 := (mx_ge hi aI len).1
  rw [hmn] at hb1
  rw [hmx] at hb2
  have hle : mn ≤ mx := by omega
  have HIN : Hid (∀ k, k < len → mn ≤ aI k ∧ aI k ≤ mx) := hid (fun k hk => ⟨by rw [← hmn]; exact (mn_le lo aI len).2 k hk, by rw [← hmx]; exact (mx_ge hi aI len).2 k hk⟩)
  have HW := hid (window_any (cap := cap) h hl lo hi mn mx hmn hmx true (by rw [decide_eq_true hw1, decide_eq_true hw2, decide_eq_true hw3]; rfl) hle)
  obtain ⟨M, hM⟩ : ∃ M : Nat, mx - mn + 1 = (M : Int) := ⟨(mx - mn + 1).toNat, by omega⟩
  have HM := hid (model_ok (cap := cap) h (Nat.le_refl _) hl mn mx M hM (by omega) hw1 hw2 HIN.out hs)
  have HE := hid (st_ends lo hi aI aN len)
  rw [hmn, hmx] at HE
  have HAD := hid h
  have HS := hid hs
  have HL0 := hid hl0
  clear h hmn hmx hs hl0
  go_enter Try.func5, Try.ntmps5
  go_wp2_with (first | (go_at_call 11; refine H.out.mono ?_; rintro e w1 ⟨rfl, rfl⟩) | (go_at_call 12; refine HW.out.mono ?_; rintro e w1 ⟨rfl, rfl⟩) | (go_at_call 13; refine HM.out.mono ?_; rintro e wa ⟨g, hg, rfl, b1, u1⟩))
  go_at_call 14
  refine (znew _).mono ?_
  rintro e wd ⟨bx, hbx, rfl, hx, ux⟩
  have T0 := hid (One.new b1 u1 hbx hx ux)
  have hadd := HAD.out
  clear b1 u1 hx ux hbx
  clear HM HW H
  go_wp2
  go_loopw [12] (fun i wr => ∃ k gx : Nat, k ≤ len ∧ i = .int .i64 k ∧ One w1 wr g (mdl mn M (csN aI aN len)) bx gx (stN aI aN k)) (fun i _ => len - (intOf i).toNat)
  case atStart => exact ⟨0, bx, Nat.zero_le _, rfl, T0.out⟩
  case round =>
    obtain ⟨k, gx, hk, rfl, T⟩ := hrel
    clear T0
    by_cases hlt : k < len
    · obtain ⟨b, off, ha, hb, hc⟩ := hadd.spot (by omega)
      cases ha
      obtain ⟨c1, c2⟩ := hc k hlt
      obtain ⟨k1, k2⟩ := HIN.out k hlt
      have hv := HS.out k hlt
      have hfi := st_fi aI aN k
      have hIW := InW.stN (aN := aN) HIN.out k (by omega)
      rw [← st_cnt] at hv
      have e1 : wr.cell? ⟨b, off + k * 2, none⟩ = some (.int .i64 (aI k)) := by
        rw [← c1]; exact World.cell?_of_block (T.u.block b hb (by simp))
      have e2 : wr.cell? ⟨b, off + k * 2 + 1, none⟩ = some (.int .u64 (aN k : Int)) := by
        rw [← c2]; exact World.cell?_of_block (T.u.block b hb (by simp))
      obtain ⟨x, hxx⟩ : ∃ x, aI k = x := ⟨_, rfl⟩
      obtain ⟨n, hnn⟩ : ∃ n, aN k = n := ⟨_, rfl⟩
      rw [hxx] at e1 k1 k2 hv
      rw [hnn] at e2 hv
      obtain ⟨s, hss⟩ : ∃ s, stN aI aN k = s := ⟨_, rfl⟩
      rw [hss] at hv hIW T hfi
      have hst : stN aI aN (k + 1) = some (step s x n) := by show some (step _ _ _) = _; rw [hss, hxx, hnn]
      have HST := hid hst
      have HV := hid hv
      have HIW := hid hIW
      have HFI : Hid (0 ≤ fiO s ∧ fiO s ≤ 1000000000) := hid ⟨hfi.1, by omega⟩
      have HT := hid T
      have nb1 : b ∉ [bx, gx] := by have := T.n1; have := T.n2; simp; omega
      have NB1 := hid nb1
      have hbs : b < wr.heap.size := Nat.lt_of_lt_of_le hb T.u.size
      clear hst hv hIW hfi T hc c1 c2 hxx hnn hss nb1 hadd
      go_wp2
      go_region_held3 (fun w' => w'.cell? ⟨b, off + k * 2, none⟩ = some (.int .i64 x) ∧ w'.cell? ⟨b, off + k * 2 + 1, none⟩ = some (.int .u64 n)) (simp [go_sem, *])
        (first
          | (go_at_call 15; refine (zadd_in (BS.heap HT.out.x (by rfl)) HIW.out x n k1 k2 hw3 hw1 hw2 HV.out HFI.out.1 HFI.out.2).mono ?_; rintro e w2 ⟨rfl, g2, hg2, bs2, u2⟩
             have g1 : w2.cell? ⟨b, off + k * 2, none⟩ = some (.int .i64 x) := by
               rw [← e1]; exact World.cell?_of_block (u2.block b hbs NB1.out)
             have g2' : w2.cell? ⟨b, off + k * 2 + 1, none⟩ = some (.int .u64 n) := by
               rw [← e2]; exact World.cell?_of_block (u2.block b hbs NB1.out)))
      go_wp2
      go_roundw
      case rel =>
        refine ⟨k + 1, g2, hlt, by go_num, ?_⟩
        rw [HST.out]
        exact (HT.out.heap (w' := wr.drew) rfl (Upd.drew _ _)).step hg2 bs2 u2
      case measure => simp [intOf]; omega
    · obtain rfl : k = len := by omega
      have hIW := InW.stN (aN := aN) HIN.out k (Nat.le_refl _)
      have hcs := st_cnt aI aN k
      obtain ⟨s, hss⟩ : ∃ s, stN aI aN k = s := ⟨_, rfl⟩
      rw [hss] at T hIW hcs HE
      have IW0 := hid hIW
      have c7 := T.x.fi
      obtain ⟨fi, hfi⟩ : ∃ fi, fiO s = fi := ⟨_, rfl⟩
      rw [hfi] at c7
      have HFI := hid hfi
      have HSS := hid hss
      have HCS := hid hcs
      have HT := hid T
      clear hIW hcs hss hfi T
      go_wp2_with (go_at_call 16; refine (zfilled c7).mono ?_; rintro e v1 ⟨rfl, r1, rfl⟩)
      go_at_call 17
      refine (zcover (BS.heap (w' := wr.drewN r1) HT.out.x rfl) lo hi mn mx hlh (fun x hx => ⟨(IW0.out x hx).1, (IW0.out x hx).2.1⟩) hb1 hb2 hw3 (by omega) (by omega)).mono ?_
      rintro e v2 ⟨rfl, off, L, g2, ws2, bl2, ho1, ho2, hg2, kb, u2⟩
      have T2 := hid ((HT.out.heap (w' := wr.drewN r1) rfl (Upd.drewN _ _ _)).step hg2 (show BS v2 bx g2 (some (covS lo hi s)) from ⟨off, L, ws2, bl2, kb⟩) (u2.mono (by simp)))
      clear HT hg2 u2
      have hfx : (covS lo hi s).fi = fi := by rw [← HFI.out]; cases s <;> rfl
      have hcx : (covS lo hi s).cnt = csN aI aN k := by rw [← HCS.out]; cases s <;> rfl
      rw [hfx, hcx] at kb
      obtain ⟨X, hX⟩ : ∃ X, covS lo hi s = X := ⟨_, rfl⟩
      rw [hX] at kb T2
      have hin : off ≤ mn ∧ mx < off + L := by
        have q1 := kb.olo; have q2 := kb.hiL
        rcases HE.out with ⟨a1, a2, a3, a4⟩ | ⟨z, a1, a2, a3, a4, a5⟩
        · omega
        · have : X = z := by rw [← hX, a1]; rfl
          subst this
          omega
      have hmod := kb.mod
      have hLm := kb.Lm
      have hand : bits BinOp.and IntKind.i64 off 7 = 0 := by rw [i64_and7]; exact hmod
      have hmn0 : decide (mn < off) = false := by simp; omega
      have wroom : IntKind.i64.wrap (mx - off) = mx - off := IntWalk.i64_in _ (by omega)
      have hroom : decide ((L : Int) ≤ mx - off) = false := by simp; omega
      have x0 : v2.cell? ⟨bx, 0, none⟩ = some (.int .i64 off) := kb.blk8.cellv rfl
      have KB := hid kb
      have HX := hid hX
      have HIN2 := hid hin
      have ho1' : off ≤ lo := ho1
      have ho2' : hi < off + L := ho2
      clear kb hX hin hmod hfx hcx c7 ho1 ho2
      go_wp2_with (fail)
      go_at_call 18
      refine (zoffset x0).mono ?_
      rintro e v3 ⟨rfl, r3, rfl⟩
      go_wp2_with (fail)
      go_at_call 19
      refine (zroom (KB.out.heap (w' := v2.drewN r3) rfl)).mono ?_
      rintro e v4 ⟨rfl, r4, rfl⟩
      obtain ⟨V, hV⟩ : ∃ V, (v2.drewN r3).drewN r4 = V := ⟨_, rfl⟩
      rw [hV]
      have GX : Hid (Bk V bx off X.lo X.hi fi L (csN aI aN k) g2 ws2 bl2) := hid (KB.out.heap (by rw [← hV]; rfl))
      have GM : Hid (Blk V g (W64 (mdl mn M (csN aI aN k))) 25) := hid (Blk_heap T2.out.m (by rw [← hV]; rfl))
      have GU : Hid (Upd [] w1 V) := hid (by rw [← hV]; exact (T2.out.u.trans (Upd.drewN _ _ _)).trans (Upd.drewN _ _ _))
      clear KB T2 hV x0
      have hxl : X.lo = lo ∧ X.hi = hi := by
        rcases HE.out with ⟨a1, _⟩ | ⟨z, _, a2, _⟩
        · rw [← HX.out, a1]; exact ⟨rfl, rfl⟩
        · have := HL0.out; omega
      rw [hxl.1, hxl.2] at GX
      have t0 : decide (0 < k) = false := by have := HL0.out; simp; omega
      have t00 : ¬ 0 < k := by have := HL0.out; omega
      obtain ⟨VV, hVV⟩ : ∃ VV, V = VV := ⟨_, rfl⟩
      rw [hVV] at GX GM GU
      rw [hVV]
      have NV := GX
      have NVM := GM
      have NVU := GU
      have tl1 : (lo != lo) = false := by simp
      have tl2 : (hi != hi) = false := by simp
      have tl3 : (fi != fi) = false := by simp
      clear GX GM GU hVV hxl
      go_wp2_with (fail)
      go_at_call 20
      refine (zlohi (w := VV) (NV.out.blk8.cellv rfl) (NV.out.blk8.cellv rfl)).mono ?_
      rintro e v6 ⟨rfl, r6, rfl⟩
      go_wp2_with (fail)
      go_at_call 16
      refine (zfilled (w := VV.drewN r6) ((NV.out.heap (w' := VV.drewN r6) rfl).blk8.cellv rfl)).mono ?_
      rintro e v7 ⟨rfl, r7, rfl⟩
      go_wp2
      have wM : IntKind.i64.wrap (mx - mn) = mx - mn := IntWalk.i64_in _ (by omega)
      go_loopw [21] (fun i wr => ∃ d q : Nat, d ≤ M ∧ i = .int .i64 d ∧ wr = VV.drewN q) (fun i _ => M - (intOf i).toNat)
      case atStart => exact ⟨0, r6 + r7, Nat.zero_le _, rfl, by simp⟩
      case round =>
        obtain ⟨d, q, hd, rfl, hwr0⟩ := hrel
        have HWR := hid hwr0
        have NX : Hid (Bk wr bx off lo hi fi L (csN aI aN k) g2 ws2 bl2) := hid (NV.out.heap (by rw [hwr0]; rfl))
        have NM : Hid (Blk wr g (W64 (mdl mn M (csN aI aN k))) 25) := hid (Blk_heap NVM.out (by rw [hwr0]; rfl))
        clear hwr0
        by_cases hdl : d < M
        · have tl : decide ((d : Int) ≤ mx - mn) = true := by simp; omega
          have wd : IntKind.i64.wrap (mn + (d : Int)) = mn + (d : Int) := IntWalk.i64_in _ (by omega)
          have hx2 := HIN2.out.1
          have hx3 := HIN2.out.2
          obtain ⟨n, hn⟩ : ∃ n, csN aI aN k (mn + d) = n := ⟨_, rfl⟩
          have CX := hid fun wz e => zcount (NX.out.heap (w' := wz) e) (mn + d) (by omega) (by omega) n hn
          have cm : wr.cell? ⟨g, d, none⟩ = some (.int .u64 (n : Int)) := by
            rw [← hn, ← mdl_get mn M (csN aI aN k) d hdl]; exact NM.out.cellv (W64_get _ d (by rw [mdl_len]; exact hdl))
          have tn : ((n : Int) != (n : Int)) = false := by simp
          clear hx2 hx3 hn
          go_wp2
          go_quiet ((go_at_call 21; refine Calls.quiet_of (CX.out _ (by rfl))))
          go_wp2
          go_roundw
          case rel => exact ⟨d + 1, _, hdl, by go_num, by rw [HWR.out]; exact drewN_add _ _ _⟩
          case measure => simp [intOf]; omega
        · have tl : decide ((d : Int) ≤ mx - mn) = false := by simp; omega
          have CO := hid (zcover_in NX.out lo hi ho1' ho2' hlh)
          go_wp2_with (go_at_call 17; refine CO.out.mono ?_; rintro e v8 ⟨rfl, r8, rfl⟩)
          go_at_call 18
          refine (zoffset (w := wr.drewN r8) ((NX.out.heap (w' := wr.drewN r8) rfl).blk8.cellv rfl)).mono ?_
          rintro e v9 ⟨rfl, r9, rfl⟩
          have too : (off != off) = false := by simp
          have tLL : ((L : Int) != (L : Int)) = false := by simp
          go_wp2_with (fail)
          go_at_call 19
          refine (zroom (w := wr.drewN (r8 + r9)) (NX.out.heap rfl)).mono ?_
          rintro e v10 ⟨rfl, r10, rfl⟩
          go_wp2_with (fail)
          go_at_call 20
          refine (zlohi (w := wr.drewN (r8 + r9 + r10)) ((NX.out.heap (w' := wr.drewN (r8 + r9 + r10)) rfl).blk8.cellv rfl) ((NX.out.heap (w' := wr.drewN (r8 + r9 + r10)) rfl).blk8.cellv rfl)).mono ?_
          rintro e v11 ⟨rfl, r11, rfl⟩
          have tl1 : (lo == lo) = true := by simp
          have tl2 : (hi == hi) = true := by simp
          go_wp2
          go_ret
          exact ⟨rfl, by rw [HWR.out]; exact (NVU.out.trans (Upd.drewN _ _ _)).trans (Upd.drewN _ _ _)⟩

set_option maxRecDepth 100000 in
set_option maxHeartbeats 4000000 in
theorem law5_some {w : World} {ao : Option Addr} {len cap : Nat} {aI : Nat → Int} {aN : Nat → Nat} (h : Ad w.heap.size w ao len aI aN) (lo hi : Int) (hl : len ≤ 65536) (hl0 : 0 < len) (hlh : lo ≤ hi) (mn mx : Int) (hmn : mnN lo aI len = mn) (hmx : mxN hi aI len = mx)
    (hw1 : -4611686018427387903 ≤ mn) (hw2 : mx ≤ 4611686018427387903) (hw3 : mx - mn < 65536) (hs : ∀ k, k < len → csN aI aN k (aI k) + aN k < 18446744073709551616) :
    Calls Try.prog 5 #[.slice ao len cap, .int .i64 lo, .int .i64 hi] w fun e w' => e = .returned (.bool true) ∧ Upd [] w w' := by
  have H := hid (bytes11 w ao len cap lo hi (by omega))
  have hb1 := (mn_le lo aI len).1
  have hb2 := (mx_ge hi aI len).1
  rw [hmn] at hb1
  rw [hmx] at hb2
  have hle : mn ≤ mx := by omega
  have HIN : Hid (∀ k, k < len → mn ≤ aI k ∧ aI k ≤ mx) := hid (fun k hk => ⟨by rw [← hmn]; exact (mn_le lo aI len).2 k hk, by rw [← hmx]; exact (mx_ge hi aI len).2 k hk⟩)
  have HW := hid (window_any (cap := cap) h hl lo hi mn mx hmn hmx true (by rw [decide_eq_true hw1, decide_eq_true hw2, decide_eq_true hw3]; rfl) hle)
  obtain ⟨M, hM⟩ : ∃ M : Nat, mx - mn + 1 = (M : Int) := ⟨(mx - mn + 1).toNat, by omega⟩
  have HM := hid (model_ok (cap := cap) h (Nat.le_refl _) hl mn mx M hM (by omega) hw1 hw2 HIN.out hs)
  have HE := hid (st_ends lo hi aI aN len)
  rw [hmn, hmx] at HE
  have HAD := hid h
  have HS := hid hs
  have HL0 := hid hl0
  clear h hmn hmx hs hl0
  go_enter Try.func5, Try.ntmps5
  go_wp2_with (first | (go_at_call 11; refine H.out.mono ?_; rintro e w1 ⟨rfl, rfl⟩) | (go_at_call 12; refine HW.out.mono ?_; rintro e w1 ⟨rfl, rfl⟩) | (go_at_call 13; refine HM.out.mono ?_; rintro e wa ⟨g, hg, rfl, b1, u1⟩))
  go_at_call 14
  refine (znew _).mono ?_
  rintro e wd ⟨bx, hbx, rfl, hx, ux⟩
  have T0 := hid (One.new b1 u1 hbx hx ux)
  have hadd := HAD.out
  clear b1 u1 hx ux hbx
  clear HM HW H
  go_wp2
  go_loopw [12] (fun i wr => ∃ k gx : Nat, k ≤ len ∧ i = .int .i64 k ∧ One w1 wr g (mdl mn M (csN aI aN len)) bx gx (stN aI aN k)) (fun i _ => len - (intOf i).toNat)
  case atStart => exact ⟨0, bx, Nat.zero_le _, rfl, T0.out⟩
  case round =>
    obtain ⟨k, gx, hk, rfl, T⟩ := hrel
    clear T0
    by_cases hlt : k < len
    · obtain ⟨b, off, ha, hb, hc⟩ := hadd.spot (by omega)
      cases ha
      obtain ⟨c1, c2⟩ := hc k hlt
      obtain ⟨k1, k2⟩ := HIN.out k hlt
      have hv := HS.out k hlt
      have hfi := st_fi aI aN k
      have hIW := InW.stN (aN := aN) HIN.out k (by omega)
      rw [← st_cnt] at hv
      have e1 : wr.cell? ⟨b, off + k * 2, none⟩ = some (.int .i64 (aI k)) := by
        rw [← c1]; exact World.cell?_of_block (T.u.block b hb (by simp))
      have e2 : wr.cell? ⟨b, off + k * 2 + 1, none⟩ = some (.int .u64 (aN k : Int)) := by
        rw [← c2]; exact World.cell?_of_block (T.u.block b hb (by simp))
      obtain ⟨x, hxx⟩ : ∃ x, aI k = x := ⟨_, rfl⟩
      obtain ⟨n, hnn⟩ : ∃ n, aN k = n := ⟨_, rfl⟩
      rw [hxx] at e1 k1 k2 hv
      rw [hnn] at e2 hv
      obtain ⟨s, hss⟩ : ∃ s, stN aI aN k = s := ⟨_, rfl⟩
      rw [hss] at hv hIW T hfi
      have hst : stN aI aN (k + 1) = some (step s x n) := by show some (step _ _ _) = _; rw [hss, hxx, hnn]
      have HST := hid hst
      have HV := hid hv
      have HIW := hid hIW
      have HFI : Hid (0 ≤ fiO s ∧ fiO s ≤ 1000000000) := hid ⟨hfi.1, by omega⟩
      have HT := hid T
      have nb1 : b ∉ [bx, gx] := by have := T.n1; have := T.n2; simp; omega
      have NB1 := hid nb1
      have hbs : b < wr.heap.size := Nat.lt_of_lt_of_le hb T.u.size
      clear hst hv hIW hfi T hc c1 c2 hxx hnn hss nb1 hadd
      go_wp2
      go_region_held3 (fun w' => w'.cell? ⟨b, off + k * 2, none⟩ = some (.int .i64 x) ∧ w'.cell? ⟨b, off + k * 2 + 1, none⟩ = some (.int .u64 n)) (simp [go_sem, *])
        (first
          | (go_at_call 15; refine (zadd_in (BS.heap HT.out.x (by rfl)) HIW.out x n k1 k2 hw3 hw1 hw2 HV.out HFI.out.1 HFI.out.2).mono ?_; rintro e w2 ⟨rfl, g2, hg2, bs2, u2⟩
             have g1 : w2.cell? ⟨b, off + k * 2, none⟩ = some (.int .i64 x) := by
               rw [← e1]; exact World.cell?_of_block (u2.block b hbs NB1.out)
             have g2' : w2.cell? ⟨b, off + k * 2 + 1, none⟩ = some (.int .u64 n) := by
               rw [← e2]; exact World.cell?_of_block (u2.block b hbs NB1.out)))
      go_wp2
      go_roundw
      case rel =>
        refine ⟨k + 1, g2, hlt, by go_num, ?_⟩
        rw [HST.out]
        exact (HT.out.heap (w' := wr.drew) rfl (Upd.drew _ _)).step hg2 bs2 u2
      case measure => simp [intOf]; omega
    · obtain rfl : k = len := by omega
      have hIW := InW.stN (aN := aN) HIN.out k (Nat.le_refl _)
      have hcs := st_cnt aI aN k
      obtain ⟨s, hss⟩ : ∃ s, stN aI aN k = s := ⟨_, rfl⟩
      rw [hss] at T hIW hcs HE
      have IW0 := hid hIW
      have c7 := T.x.fi
      obtain ⟨fi, hfi⟩ : ∃ fi, fiO s = fi := ⟨_, rfl⟩
      rw [hfi] at c7
      have HFI := hid hfi
      have HSS := hid hss
      have HCS := hid hcs
      have HT := hid T
      clear hIW hcs hss hfi T
      go_wp2_with (go_at_call 16; refine (zfilled c7).mono ?_; rintro e v1 ⟨rfl, r1, rfl⟩)
      go_at_call 17
      refine (zcover (BS.heap (w' := wr.drewN r1) HT.out.x rfl) lo hi mn mx hlh (fun x hx => ⟨(IW0.out x hx).1, (IW0.out x hx).2.1⟩) hb1 hb2 hw3 (by omega) (by omega)).mono ?_
      rintro e v2 ⟨rfl, off, L, g2, ws2, bl2, ho1, ho2, hg2, kb, u2⟩
      have T2 := hid ((HT.out.heap (w' := wr.drewN r1) rfl (Upd.drewN _ _ _)).step hg2 (show BS v2 bx g2 (some (covS lo hi s)) from ⟨off, L, ws2, bl2, kb⟩) (u2.mono (by simp)))
      clear HT hg2 u2
      have hfx : (covS lo hi s).fi = fi := by rw [← HFI.out]; cases s <;> rfl
      have hcx : (covS lo hi s).cnt = csN aI aN k := by rw [← HCS.out]; cases s <;> rfl
      rw [hfx, hcx] at kb
      obtain ⟨X, hX⟩ : ∃ X, covS lo hi s = X := ⟨_, rfl⟩
      rw [hX] at kb T2
      have hin : off ≤ mn ∧ mx < off + L := by
        have q1 := kb.olo; have q2 := kb.hiL
        rcases HE.out with ⟨a1, a2, a3, a4⟩ | ⟨z, a1, a2, a3, a4, a5⟩
        · omega
        · have : X = z := by rw [← hX, a1]; rfl
          subst this
          omega
      have hmod := kb.mod
      have hLm := kb.Lm
      have hand : bits BinOp.and IntKind.i64 off 7 = 0 := by rw [i64_and7]; exact hmod
      have hmn0 : decide (mn < off) = false := by simp; omega
      have wroom : IntKind.i64.wrap (mx - off) = mx - off := IntWalk.i64_in _ (by omega)
      have hroom : decide ((L : Int) ≤ mx - off) = false := by simp; omega
      have x0 : v2.cell? ⟨bx, 0, none⟩ = some (.int .i64 off) := kb.blk8.cellv rfl
      have KB := hid kb
      have HX := hid hX
      have HIN2 := hid hin
      have ho1' : off ≤ lo := ho1
      have ho2' : hi < off + L := ho2
      clear kb hX hin hmod hfx hcx c7 ho1 ho2
      go_wp2_with (fail)
      go_at_call 18
      refine (zoffset x0).mono ?_
      rintro e v3 ⟨rfl, r3, rfl⟩
      go_wp2_with (fail)
      go_at_call 19
      refine (zroom (KB.out.heap (w' := v2.drewN r3) rfl)).mono ?_
      rintro e v4 ⟨rfl, r4, rfl⟩
      obtain ⟨V, hV⟩ : ∃ V, (v2.drewN r3).drewN r4 = V := ⟨_, rfl⟩
      rw [hV]
      have GX : Hid (Bk V bx off X.lo X.hi fi L (csN aI aN k) g2 ws2 bl2) := hid (KB.out.heap (by rw [← hV]; rfl))
      have GM : Hid (Blk V g (W64 (mdl mn M (csN aI aN k))) 25) := hid (Blk_heap T2.out.m (by rw [← hV]; rfl))
      have GU : Hid (Upd [] w1 V) := hid (by rw [← hV]; exact (T2.out.u.trans (Upd.drewN _ _ _)).trans (Upd.drewN _ _ _))
      clear KB T2 hV x0
      have t0 : decide (0 < k) = true := by have := HL0.out; simp; omega
      have t00 : 0 < k := HL0.out
      obtain ⟨b0, o0, ha0, hb0, hc0⟩ := hadd.spot t00
      cases ha0
      have c00 := (hc0 0 t00).1
      have e00 : V.cell? ⟨b0, o0, none⟩ = some (.int .i64 (aI 0)) := by
        rw [← (show w1.cell? ⟨b0, o0, none⟩ = some (.int .i64 (aI 0)) by simpa using c00)]; exact World.cell?_of_block (GU.out.block b0 hb0 (by simp))
      have HC0 := hid hc0
      clear hc0 c00
      go_wp2
      go_quiet (fail)
      go_wp2
      go_loopw [16, 17, 18] (fun m M i wr => ∃ j q : Nat, ∃ x : St, 1 ≤ j ∧ j ≤ k ∧ i = .int .i64 j ∧ stN aI aN j = some x ∧ m = .int .i64 x.lo ∧ M = .int .i64 x.hi ∧ wr = V.drewN q) (fun _ _ i _ => k - (intOf i).toNat)
      case atStart => exact ⟨1, _, step none (aI 0) (aN 0), Nat.le_refl _, t00, rfl, rfl, rfl, rfl, rfl⟩
      case round =>
        obtain ⟨j, q, x, hj1, hjk, rfl, hjx, rfl, rfl, hwr0⟩ := hrel
        by_cases hjl : j < k
        · have c1 := (HC0.out j hjl).1
          have e1 : wr.cell? ⟨b0, o0 + j * 2, none⟩ = some (.int .i64 (aI j)) := by
            rw [← c1, hwr0]; exact World.cell?_of_block (GU.out.block b0 hb0 (by simp))
          have st1 : stN aI aN (j + 1) = some ⟨min x.lo (aI j), max x.hi (aI j), fill x.cnt x.fi (aI j), bump x.cnt (aI j) (aN j)⟩ := by
            show some (step _ _ _) = _; rw [hjx]; rfl
          obtain ⟨y, hy⟩ : ∃ y, aI j = y := ⟨_, rfl⟩
          obtain ⟨l, hll⟩ : ∃ l, x.lo = l := ⟨_, rfl⟩
          obtain ⟨u, huu⟩ : ∃ u, x.hi = u := ⟨_, rfl⟩
          rw [hy, hll, huu] at st1
          rw [hy] at e1
          rw [hll, huu]
          have ST1 := hid st1
          have HWR := hid hwr0
          clear c1 st1 hjx hy hll huu hwr0 e00
          by_cases q1 : y < l
          · by_cases q2 : u < y
            · go_wp2
              go_roundw
              case rel => exact ⟨j + 1, q, _, by omega, hjl, by go_num, ST1.out, by rw [min_yes q1], by rw [max_yes q2], HWR.out⟩
              case measure => simp [intOf]; omega
            · go_wp2
              go_roundw
              case rel => exact ⟨j + 1, q, _, by omega, hjl, by go_num, ST1.out, by rw [min_yes q1], by rw [max_no q2], HWR.out⟩
              case measure => simp [intOf]; omega
          · by_cases q2 : u < y
            · go_wp2
              go_roundw
              case rel => exact ⟨j + 1, q, _, by omega, hjl, by go_num, ST1.out, by rw [min_no q1], by rw [max_yes q2], HWR.out⟩
              case measure => simp [intOf]; omega
            · go_wp2
              go_roundw
              case rel => exact ⟨j + 1, q, _, by omega, hjl, by go_num, ST1.out, by rw [min_no q1], by rw [max_no q2], HWR.out⟩
              case measure => simp [intOf]; omega
        · obtain rfl : j = k := by omega
          have hXx : X = x := by
            have hs := HSS.out
            rw [hjx] at hs
            rw [← HX.out, ← hs]; rfl
          rw [← hXx]
          obtain ⟨VV, hVV⟩ : ∃ VV, wr = VV := ⟨_, rfl⟩
          rw [hVV] at hwr0
          rw [hVV]
          have NV : Hid (Bk VV bx off X.lo X.hi fi L (csN aI aN j) g2 ws2 bl2) := hid (GX.out.heap (by rw [hwr0]; rfl))
          have NVM : Hid (Blk VV g (W64 (mdl mn M (csN aI aN j))) 25) := hid (Blk_heap GM.out (by rw [hwr0]; rfl))
          have NVU : Hid (Upd [] w1 VV) := hid (by rw [hwr0]; exact GU.out.trans (Upd.drewN _ _ _))
          have tl1 : (X.lo != X.lo) = false := by simp
          have tl2 : (X.hi != X.hi) = false := by simp
          have tl3 : (fi != fi) = false := by simp
          clear GX GM GU hVV hwr0 hjx hXx e00 hadd hj1 hjk
          go_wp2_with (fail)
          go_at_call 20
          refine (zlohi (w := VV) (NV.out.blk8.cellv rfl) (NV.out.blk8.cellv rfl)).mono ?_
          rintro e v6 ⟨rfl, r6, rfl⟩
          go_wp2_with (fail)
          go_at_call 16
          refine (zfilled (w := VV.drewN r6) ((NV.out.heap (w' := VV.drewN r6) rfl).blk8.cellv rfl)).mono ?_
          rintro e v7 ⟨rfl, r7, rfl⟩
          go_wp2
          have wM : IntKind.i64.wrap (mx - mn) = mx - mn := IntWalk.i64_in _ (by omega)
          go_loopw [21] (fun i wr => ∃ d q : Nat, d ≤ M ∧ i = .int .i64 d ∧ wr = VV.drewN q) (fun i _ => M - (intOf i).toNat)
          case atStart => exact ⟨0, r6 + r7, Nat.zero_le _, rfl, by simp⟩
          case round =>
            obtain ⟨d, q, hd, rfl, hwr0⟩ := hrel
            have HWR := hid hwr0
            have NX : Hid (Bk wr bx off X.lo X.hi fi L (csN aI aN j) g2 ws2 bl2) := hid (NV.out.heap (by rw [hwr0]; rfl))
            have NM : Hid (Blk wr g (W64 (mdl mn M (csN aI aN j))) 25) := hid (Blk_heap NVM.out (by rw [hwr0]; rfl))
            clear hwr0
            by_cases hdl : d < M
            · have tl : decide ((d : Int) ≤ mx - mn) = true := by simp; omega
              have wd : IntKind.i64.wrap (mn + (d : Int)) = mn + (d : Int) := IntWalk.i64_in _ (by omega)
              have hx2 := HIN2.out.1
              have hx3 := HIN2.out.2
              obtain ⟨n, hn⟩ : ∃ n, csN aI aN j (mn + d) = n := ⟨_, rfl⟩
              have CX := hid fun wz e => zcount (NX.out.heap (w' := wz) e) (mn + d) (by omega) (by omega) n hn
              have cm : wr.cell? ⟨g, d, none⟩ = some (.int .u64 (n : Int)) := by
                rw [← hn, ← mdl_get mn M (csN aI aN j) d hdl]; exact NM.out.cellv (W64_get _ d (by rw [mdl_len]; exact hdl))
              have tn : ((n : Int) != (n : Int)) = false := by simp
              clear hx2 hx3 hn
              go_wp2
              go_quiet ((go_at_call 21; refine Calls.quiet_of (CX.out _ (by rfl))))
              go_wp2
              go_roundw
              case rel => exact ⟨d + 1, _, hdl, by go_num, by rw [HWR.out]; exact drewN_add _ _ _⟩
              case measure => simp [intOf]; omega
            · have tl : decide ((d : Int) ≤ mx - mn) = false := by simp; omega
              have CO := hid (zcover_in NX.out lo hi ho1' ho2' hlh)
              go_wp2_with (go_at_call 17; refine CO.out.mono ?_; rintro e v8 ⟨rfl, r8, rfl⟩)
              go_at_call 18
              refine (zoffset (w := wr.drewN r8) ((NX.out.heap (w' := wr.drewN r8) rfl).blk8.cellv rfl)).mono ?_
              rintro e v9 ⟨rfl, r9, rfl⟩
              have too : (off != off) = false := by simp
              have tLL : ((L : Int) != (L : Int)) = false := by simp
              go_wp2_with (fail)
              go_at_call 19
              refine (zroom (w := wr.drewN (r8 + r9)) (NX.out.heap rfl)).mono ?_
              rintro e v10 ⟨rfl, r10, rfl⟩
              go_wp2_with (fail)
              go_at_call 20
              refine (zlohi (w := wr.drewN (r8 + r9 + r10)) ((NX.out.heap (w' := wr.drewN (r8 + r9 + r10)) rfl).blk8.cellv rfl) ((NX.out.heap (w' := wr.drewN (r8 + r9 + r10)) rfl).blk8.cellv rfl)).mono ?_
              rintro e v11 ⟨rfl, r11, rfl⟩
              have tl1 : (X.lo == X.lo) = true := by simp
              have tl2 : (X.hi == X.hi) = true := by simp
              go_wp2
              go_ret
              exact ⟨rfl, by rw [HWR.out]; exact (NVU.out.trans (Upd.drewN _ _ _)).trans (Upd.drewN _ _ _)⟩
end Go.Proofs.Qxb6616660a
