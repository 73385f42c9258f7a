import Derived.Test.Qxb6616660aScr
namespace Go.Proofs.Qxb6616660a
open Go.RowKit Go.Qm

/-- The sums f over M buckets from mn on. -/
def mdl (mn : Int) (M : Nat) (f : Int → Nat) : List Nat := (List.range M).map fun (d : Nat) => f (mn + (d : Int))
theorem mdl_len (mn : Int) (M : Nat) (f : Int → Nat) : (mdl mn M f).length = M := by simp [mdl]
theorem mdl_get (mn : Int) (M : Nat) (f : Int → Nat) (d : Nat) (h : d < M) : (mdl mn M f).getD d 0 = f (mn + d) := by simp [mdl, List.getD, h]
theorem mdl_set (mn : Int) (M : Nat) (f : Int → Nat) (d n : Nat) (i : Int) (hi : mn + d = i) : (mdl mn M f).set d (f i + n) = mdl mn M (bump f i n) := by
  apply List.ext_getElem
  · simp [mdl]
  · intro k h1 h2
    simp only [mdl, List.length_map, List.length_range] at h2
    simp only [List.getElem_set, mdl, List.getElem_map, List.getElem_range, bump]
    by_cases e : d = k
    · subst e; simp [hi]
    · rw [if_neg e, if_neg (by omega)]
theorem mdl_zero (mn : Int) (M : Nat) : mdl mn M (fun _ => 0) = List.replicate M 0 := by simp [mdl, List.map_const']

set_option maxHeartbeats 400000 in
theorem madd_bad {w : World} {g M : Nat} {ws : List Nat} (h : Blk w g (W64 ws) 25) (hM : ws.length = M) (d n v : Nat) (hd : d < M) (hv : ws.getD d 0 = v) (hv2 : v < 18446744073709551616) (hov : 18446744073709551616 ≤ v + n) :
    Calls Try.prog 23 #[.slice (some ⟨g, 0, none⟩) M M, .int .i64 (d : Int), .int .u64 (n : Int)] w fun e w' => e = .returned (.bool false) ∧ ∃ q, w' = w.drewN q := by
  have c1 : w.cell? ⟨g, d, none⟩ = some (.int .u64 (v : Int)) := by rw [← hv]; exact h.cellv (W64_get ws d (by omega))
  have wr : IntKind.u64.wrap (18446744073709551615 - (v : Int)) = 18446744073709551615 - (v : Int) := IntWalk.u64_in _ (by omega)
  have t1 : decide (18446744073709551615 - (v : Int) < (n : Int)) = true := by simp; omega
  clear h hM hv
  go_enter Try.func23, Try.ntmps23
  go_wp2
  go_ret
  exact ⟨rfl, 0, rfl⟩

set_option maxHeartbeats 400000 in
theorem madd_ok {w : World} {g M : Nat} {ws : List Nat} (h : Blk w g (W64 ws) 25) (hM : ws.length = M) (d n v : Nat) (hd : d < M) (hv : ws.getD d 0 = v) (hv2 : v < 18446744073709551616) (hov : v + n < 18446744073709551616) :
    Calls Try.prog 23 #[.slice (some ⟨g, 0, none⟩) M M, .int .i64 (d : Int), .int .u64 (n : Int)] w fun e w' => e = .returned (.bool true) ∧ Blk w' g (W64 (ws.set d (v + n))) 25 ∧ Upd [g] w w' := by
  have c1 : w.cell? ⟨g, d, none⟩ = some (.int .u64 (v : Int)) := by rw [← hv]; exact h.cellv (W64_get ws d (by omega))
  have z1 := h.frozen d
  have wr : IntKind.u64.wrap (18446744073709551615 - (v : Int)) = 18446744073709551615 - (v : Int) := IntWalk.u64_in _ (by omega)
  have wr2 : IntKind.u64.wrap ((v : Int) + n) = (v : Int) + n := IntWalk.u64_in _ (by omega)
  have t1 : decide (18446744073709551615 - (v : Int) < (n : Int)) = false := by simp; omega
  have H := hid h
  clear h hM hv
  go_enter Try.func23, Try.ntmps23
  go_wp2
  go_ret
  have := H.out.set d (.int .u64 ((v + n : Nat) : Int))
  rw [W64_set] at this
  exact ⟨rfl, this, Upd.setCell _ (Or.inl (by simp)) _⟩

theorem cs_lt {aI : Nat → Int} {aN : Nat → Nat} {k : Nat} (h : ∀ j, j < k → csN aI aN j (aI j) + aN j < 18446744073709551616) (i : Int) : csN aI aN k i < 18446744073709551616 := by
  induction k with
  | zero => simp [csN]
  | succ k ih =>
    have := ih (fun j hj => h j (by omega))
    have h2 := h k (by omega)
    unfold csN bump
    split
    · exact h2
    · exact this

set_option maxRecDepth 100000 in
set_option maxHeartbeats 2000000 in
theorem model_any {D : Nat} {w : World} {ao : Option Addr} {len cap : Nat} {aI : Nat → Int} {aN : Nat → Nat} (h : Ad D w ao len aI aN) (hD : D ≤ w.heap.size) (hl : len ≤ 65536) (mn mx : Int) (M : Nat) (hM : mx - mn + 1 = (M : Int)) (hM1 : M ≤ 65536)
    (hw1 : -4611686018427387903 ≤ mn) (hw2 : mx ≤ 4611686018427387903) (hin : ∀ k, k < len → mn ≤ aI k ∧ aI k ≤ mx) :
    Calls Try.prog 13 #[.slice ao len cap, .int .i64 mn, .int .i64 mx] w fun e w' => 
      (e = .returned (.tuple #[.slice none 0 0, .bool false]) ∧ Upd [] w w' ∧ ∃ k, k < len ∧ ¬ csN aI aN k (aI k) + aN k < 18446744073709551616) ∨
      ∃ g, w.heap.size ≤ g ∧ e = .returned (.tuple #[.slice (some ⟨g, 0, none⟩) M M, .bool true]) ∧ Blk w' g (W64 (mdl mn M (csN aI aN len))) 25 ∧ Upd [] w w' ∧ (∀ k, k < len → csN aI aN k (aI k) + aN k < 18446744073709551616) := by
  obtain ⟨i0, hi, hz0, hz1, hz2⟩ := info_parts info25
  have HS := hid h.spot
  have HI := hid hin
  have HM := hid hM
  have HU := hid fun (S : List Nat) wx (e : Upd S w wx) he => h.upd e he
  have wr : IntKind.i64.wrap (mx - mn) = mx - mn := IntWalk.i64_in _ (by omega)
  have wr1 : IntKind.i64.wrap (mx - mn + 1) = (M : Int) := by rw [hM]; exact IntWalk.i64_in _ (by omega)
  clear h hin hM
  go_enter Try.func13, Try.ntmps13
  go_wp2_with (at_make; refine wpList_make_zero _ rfl (.tmp 13) (.tmp 13) 34 rfl 25 i0 (.int .u64 0) Try.underlying34 hi hz0 hz1 rfl .i64 .i64 _ _ M rfl rfl (by have := HM.out; omega) (by have := HM.out; omega) (by rw [hz2]; omega) (by omega) ?_)
  go_loopw [9] (fun i wr => ∃ k : Nat, k ≤ len ∧ i = .int .i64 k ∧ Blk wr w.heap.size (W64 (mdl mn M (csN aI aN k))) 25 ∧ Upd [] w wr ∧ ∀ j, j < k → csN aI aN j (aI j) + aN j < 18446744073709551616) (fun i _ => len - (intOf i).toNat)
  case atStart =>
    refine ⟨0, Nat.zero_le _, rfl, ?_, Upd.alloc _ _ _, fun j hj => by omega⟩
    have := Blk.new w (W64 (List.replicate M 0)) 25
    rw [← Zr_u64] at this
    show Blk _ _ (W64 (mdl mn M (fun _ => 0))) 25
    rw [mdl_zero]
    exact this
  case round =>
    obtain ⟨k, hk, rfl, hb0, hu0, hj⟩ := hrel
    by_cases hlt : k < len
    · obtain ⟨b, off, ha, hb, hc⟩ := HS.out (by omega)
      cases ha
      obtain ⟨c1, c2⟩ := hc k hlt
      obtain ⟨m1, m2⟩ := HI.out k hlt
      have hV := cs_lt hj (aI k)
      obtain ⟨V, hVe⟩ : ∃ V, csN aI aN k (aI k) = V := ⟨_, rfl⟩
      rw [hVe] at hV
      obtain ⟨x, hx⟩ : ∃ x, aI k = x := ⟨_, rfl⟩
      obtain ⟨n, hn⟩ : ∃ n, aN k = n := ⟨_, rfl⟩
      rw [hx] at c1 m1 m2
      rw [hn] at c2
      obtain ⟨d, hd⟩ : ∃ d : Nat, x - mn = (d : Int) := ⟨(x - mn).toNat, by omega⟩
      have hdM : d < M := by have := HM.out; omega
      have wd : IntKind.i64.wrap (d : Int) = (d : Int) := IntWalk.i64_in _ (by omega)
      have e1 : wr.cell? ⟨b, off + k * 2, none⟩ = some (.int .i64 x) := by
        rw [← c1]; exact World.cell?_of_block (hu0.block b (World.block_lt_of_cell? w _ c1) (by simp))
      have e2 : wr.cell? ⟨b, off + k * 2 + 1, none⟩ = some (.int .u64 n) := by
        rw [← c2]; exact World.cell?_of_block (hu0.block b (World.block_lt_of_cell? w _ c1) (by simp))
      have hgv : (mdl mn M (csN aI aN k)).getD d 0 = V := by rw [mdl_get _ _ _ _ hdM, ← hVe, hx]; congr 1; omega
      have HX := hid hx
      have HN := hid hn
      have HV := hid hVe
      have HB := hid hb0
      have HJ := hid hj
      clear hc c1 c2 hx hn hVe hj
      by_cases hov : V + n < 18446744073709551616
      · have HC := hid fun wx e => madd_ok (Blk_heap (w' := wx) hb0 e) (mdl_len _ _ _) d n V hdM hgv hV hov
        have hgb : b ≠ w.heap.size := by omega
        have hwlt := hb0.lt
        clear hb0 hgv
        go_wp2
        go_region_held3 (fun w' => w'.cell? ⟨b, off + k * 2, none⟩ = some (.int .i64 x) ∧ w'.cell? ⟨b, off + k * 2 + 1, none⟩ = some (.int .u64 n)) (simp [go_sem, *])
          (first
            | (go_at_call 23; refine (HC.out _ (by rfl)).mono ?_; rintro e w2 ⟨rfl, b2, u2⟩
               have g1 : w2.cell? ⟨b, off + k * 2, none⟩ = some (.int .i64 x) := by
                 rw [← e1]; exact World.cell?_of_block (u2.block b (World.block_lt_of_cell? wr _ e1) (by simp [hgb]))
               have g2 : w2.cell? ⟨b, off + k * 2 + 1, none⟩ = some (.int .u64 n) := by
                 rw [← e2]; exact World.cell?_of_block (u2.block b (World.block_lt_of_cell? wr _ e1) (by simp [hgb]))))
        go_wp2
        go_roundw
        case rel =>
          refine ⟨k + 1, hlt, by go_num, ?_, ?_, ?_⟩
          · have e : csN aI aN (k + 1) = bump (csN aI aN k) x n := by show bump _ _ _ = _; rw [HX.out, HN.out]
            rw [e, ← mdl_set mn M _ d n x (by omega), ← HX.out, HV.out]
            exact b2
          · exact hu0.trans' ((Upd.drewN _ _ _).trans u2) (by simp)
          · intro j hj
            rcases Nat.lt_succ_iff_lt_or_eq.1 hj with h | rfl
            · exact HJ.out j h
            · rw [HV.out, HN.out]; exact hov
        case measure => simp [intOf]; omega
      · have HC := hid fun wx e => madd_bad (Blk_heap (w' := wx) hb0 e) (mdl_len _ _ _) d n V hdM hgv hV (by omega)
        clear hb0 hgv
        go_wp2
        go_quiet ((go_at_call 23; refine Calls.quiet_of (HC.out _ (by rfl))))
        go_wp2
        go_ret2
        exact Or.inl ⟨rfl, hu0.trans (Upd.drewN _ _ _), k, hlt, by rw [HV.out, HN.out]; exact hov⟩
    · obtain rfl : k = len := by omega
      go_wp2
      go_ret2
      exact Or.inr ⟨_, Nat.le_refl _, rfl, hb0, hu0, hj⟩

theorem model_ok {D : Nat} {w : World} {ao : Option Addr} {len cap : Nat} {aI : Nat → Int} {aN : Nat → Nat} (h : Ad D w ao len aI aN) (hD : D ≤ w.heap.size) (hl : len ≤ 65536) (mn mx : Int) (M : Nat) (hM : mx - mn + 1 = (M : Int)) (hM1 : M ≤ 65536)
    (hw1 : -4611686018427387903 ≤ mn) (hw2 : mx ≤ 4611686018427387903) (hin : ∀ k, k < len → mn ≤ aI k ∧ aI k ≤ mx) (hs : ∀ k, k < len → csN aI aN k (aI k) + aN k < 18446744073709551616) :
    Calls Try.prog 13 #[.slice ao len cap, .int .i64 mn, .int .i64 mx] w fun e w' => 
      ∃ g, w.heap.size ≤ g ∧ e = .returned (.tuple #[.slice (some ⟨g, 0, none⟩) M M, .bool true]) ∧ Blk w' g (W64 (mdl mn M (csN aI aN len))) 25 ∧ Upd [] w w' := by
  refine (model_any h hD hl mn mx M hM hM1 hw1 hw2 hin).mono ?_
  rintro e w' (⟨_, _, k, hk, hn⟩ | ⟨g, k1, k2, k3, k4, _⟩)
  · exact absurd (hs k hk) hn
  · exact ⟨g, k1, k2, k3, k4⟩
theorem model_bad {D : Nat} {w : World} {ao : Option Addr} {len cap : Nat} {aI : Nat → Int} {aN : Nat → Nat} (h : Ad D w ao len aI aN) (hD : D ≤ w.heap.size) (hl : len ≤ 65536) (mn mx : Int) (M : Nat) (hM : mx - mn + 1 = (M : Int)) (hM1 : M ≤ 65536)
    (hw1 : -4611686018427387903 ≤ mn) (hw2 : mx ≤ 4611686018427387903) (hin : ∀ k, k < len → mn ≤ aI k ∧ aI k ≤ mx) (hs : ¬ ∀ k, k < len → csN aI aN k (aI k) + aN k < 18446744073709551616) :
    Calls Try.prog 13 #[.slice ao len cap, .int .i64 mn, .int .i64 mx] w fun e w' => 
      e = .returned (.tuple #[.slice none 0 0, .bool false]) ∧ Upd [] w w' := by
  refine (model_any h hD hl mn mx M hM hM1 hw1 hw2 hin).mono ?_
  rintro e w' (⟨k1, k2, _⟩ | ⟨g, k1, k2, k3, k4, k5⟩)
  · exact ⟨k1, k2⟩
  · exact absurd k5 hs
end Go.Proofs.Qxb6616660a
