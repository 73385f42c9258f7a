import Derived.Test.Qxb6616660aLaw6
namespace Go.Proofs.Qxb6616660a
open Go.RowKit Go.Qm

theorem madd_mdl {w : World} {g M : Nat} {mn : Int} {f : Int → Nat} (h : Blk w g (W64 (mdl mn M f)) 25) (i : Int) (d n : Nat) (hd : mn + d = i) (hdM : d < M) (hv2 : f i < 18446744073709551616) (hov : f i + n < 18446744073709551616) :
    Calls Try.prog 23 #[.slice (some ⟨g, 0, none⟩) M M, .int .i64 (d : Int), .int .u64 (n : Int)] w fun e w' => e = .returned (.bool true) ∧ Blk w' g (W64 (mdl mn M (bump f i n))) 25 ∧ Upd [g] w w' := by
  refine (madd_ok h (mdl_len _ _ _) d n (f i) hdM (by rw [mdl_get _ _ _ _ hdM, hd]) hv2 hov).mono ?_
  rintro e w' ⟨rfl, k1, k2⟩
  rw [mdl_set mn M f d n i hd] at k1
  exact ⟨rfl, k1, k2⟩
theorem madd_mdl_bad {w : World} {g M : Nat} {mn : Int} {f : Int → Nat} (h : Blk w g (W64 (mdl mn M f)) 25) (i : Int) (d n : Nat) (hd : mn + d = i) (hdM : d < M) (hv2 : f i < 18446744073709551616) (hov : ¬ f i + n < 18446744073709551616) :
    Calls Try.prog 23 #[.slice (some ⟨g, 0, none⟩) M M, .int .i64 (d : Int), .int .u64 (n : Int)] w fun e w' => e = .returned (.bool false) ∧ ∃ q, w' = w.drewN q :=
  madd_bad h (mdl_len _ _ _) d n (f i) hdM (by rw [mdl_get _ _ _ _ hdM, hd]) hv2 (by omega)

set_option maxRecDepth 100000 in
set_option maxHeartbeats 4000000 in
theorem law6_madd {w : World} {ao : Option Addr} {len cap : Nat} {aI : Nat → Int} {aN : Nat → Nat} (h : Ad w.heap.size w ao len aI aN) (lo hi : Int) (m1 m2 : Nat) (hl : len ≤ 65536) (hlh : lo ≤ hi) (mn mx : Int) (hmn : mnN lo aI len = mn) (hmx : mxN hi aI len = mx)
    (hw1 : -4611686018427387903 ≤ mn) (hw2 : mx ≤ 4611686018427387903) (hw3 : mx - mn < 65536) (hs : ∀ k, k < len → csN aI aN k (aI k) + aN k < 18446744073709551616)
    (hov : ¬ (csN aI aN len lo + m1 < 18446744073709551616 ∧ bump (csN aI aN len) lo m1 hi + m2 < 18446744073709551616)) :
    Calls Try.prog 6 #[.slice ao len cap, .int .i64 lo, .int .i64 hi, .int .u64 (m1 : Int), .int .u64 (m2 : Int)] w fun e w' => e = .returned (.bool true) ∧ Upd [] w w' := by
  have H := hid (bytes22 w ao len cap lo hi m1 m2 (by omega))
  have hb1 := (mn_le lo aI len).1
  have hb2 := (mx_ge hi aI len).1
  rw [hmn] at hb1
  rw [hmx] at hb2
  have hle : mn ≤ mx := by omega
  have HW := hid (window_any (cap := cap) h hl lo hi mn mx hmn hmx true (by rw [decide_eq_true hw1, decide_eq_true hw2, decide_eq_true hw3]; rfl) hle)
  obtain ⟨M, hM⟩ : ∃ M : Nat, mx - mn + 1 = (M : Int) := ⟨(mx - mn + 1).toNat, by omega⟩
  have HM := hid (model_ok (cap := cap) h (Nat.le_refl _) hl mn mx M hM (by omega) hw1 hw2 (fun k hk => ⟨by rw [← hmn]; exact (mn_le lo aI len).2 k hk, by rw [← hmx]; exact (mx_ge hi aI len).2 k hk⟩) hs)
  obtain ⟨d1, hd1⟩ : ∃ d : Nat, lo - mn = (d : Int) := ⟨(lo - mn).toNat, by omega⟩
  obtain ⟨d2, hd2⟩ : ∃ d : Nat, hi - mn = (d : Int) := ⟨(hi - mn).toNat, by omega⟩
  have hd1M : d1 < M := by omega
  have hd2M : d2 < M := by omega
  have wd1 : IntKind.i64.wrap (d1 : Int) = (d1 : Int) := IntWalk.i64_in _ (by omega)
  have wd2 : IntKind.i64.wrap (d2 : Int) = (d2 : Int) := IntWalk.i64_in _ (by omega)
  have hc1 := cs_lt hs lo
  have hc2 := cs_lt hs hi
  have x1 : mn + d1 = lo := by omega
  have x2 : mn + d2 = hi := by omega
  have HX1 := hid x1
  have HX2 := hid x2
  clear x1 x2
  by_cases q1 : csN aI aN len lo + m1 < 18446744073709551616
  · have q2 : ¬ bump (csN aI aN len) lo m1 hi + m2 < 18446744073709551616 := fun hh => hov ⟨q1, hh⟩
    have HB1 := hid fun wx g hb => madd_mdl (w := wx) (g := g) (M := M) (mn := mn) (f := csN aI aN len) hb lo d1 m1 HX1.out hd1M hc1 q1
    have hc3 : bump (csN aI aN len) lo m1 hi < 18446744073709551616 := by unfold bump; split <;> assumption
    have HB2 := hid fun wx g hb => madd_mdl_bad (w := wx) (g := g) (M := M) (mn := mn) (f := bump (csN aI aN len) lo m1) hb hi d2 m2 HX2.out hd2M hc3 q2
    clear h hmn hmx hs hov q1 q2 hc1 hc2 hc3
    go_enter Try.func6, Try.ntmps6
    go_wp2_with (first | (go_at_call 22; refine H.out.mono ?_; rintro e w1 ⟨rfl, rfl⟩) | (go_at_call 12; refine HW.out.mono ?_; rintro e w1 ⟨rfl, rfl⟩) | (go_at_call 13; refine HM.out.mono ?_; rintro e w1 ⟨g, hg, rfl, b1, u1⟩))
    go_at_call 23
    refine (HB1.out _ _ b1).mono ?_
    rintro e w2 ⟨rfl, b2, u2⟩
    go_wp2_with (go_at_call 23; refine (HB2.out _ _ b2).mono ?_; rintro e w3 ⟨rfl, q, rfl⟩)
    go_ret
    exact ⟨rfl, (u1.trans' u2 (by simp [hg])).trans (Upd.drewN _ _ _)⟩
  · have HB1 := hid fun wx g hb => madd_mdl_bad (w := wx) (g := g) (M := M) (mn := mn) (f := csN aI aN len) hb lo d1 m1 HX1.out hd1M hc1 q1
    clear h hmn hmx hs hov q1 hc1 hc2
    go_enter Try.func6, Try.ntmps6
    go_wp2_with (first | (go_at_call 22; refine H.out.mono ?_; rintro e w1 ⟨rfl, rfl⟩) | (go_at_call 12; refine HW.out.mono ?_; rintro e w1 ⟨rfl, rfl⟩) | (go_at_call 13; refine HM.out.mono ?_; rintro e w1 ⟨g, hg, rfl, b1, u1⟩) | (go_at_call 23; refine (HB1.out _ _ b1).mono ?_; rintro e w2 ⟨rfl, q, rfl⟩))
    go_ret
    exact ⟨rfl, u1.trans (Upd.drewN _ _ _)⟩
end Go.Proofs.Qxb6616660a
