import Derived.Test.Qxb6616660aRun
namespace Go.Proofs.Qxb6616660a
open Go.RowKit Go.Qm

theorem bytes11 (w : World) (ao : Option Addr) (len cap : Nat) (lo hi : Int) (hl : len ≤ 1048576) :
    Calls Try.prog 11 #[.slice ao len cap, .int .i64 lo, .int .i64 hi] w fun e w' => e = .returned (.bool true) ∧ w' = w := by
  have wl : IntKind.i64.wrap (len : Int) = len := IntWalk.i64_in _ (by omega)
  go_enter Try.func11, Try.ntmps11
  go_wp2
  go_ret
  exact ⟨rfl, rfl⟩
theorem bytes11_big (w : World) (ao : Option Addr) (len cap : Nat) (lo hi : Int) (hl : 1048576 < len) (hm : len ≤ 9223372036854775807) :
    Calls Try.prog 11 #[.slice ao len cap, .int .i64 lo, .int .i64 hi] w fun e w' => e = .returned (.bool false) ∧ w' = w := by
  go_enter Try.func11, Try.ntmps11
  go_wp2
  go_ret
  exact ⟨rfl, rfl⟩

set_option maxRecDepth 100000 in
set_option maxHeartbeats 2000000 in
theorem law5_big (w : World) (ao : Option Addr) (len cap : Nat) (lo hi : Int) (hl : 1048576 < len) (hm : len ≤ 9223372036854775807) :
    Calls Try.prog 5 #[.slice ao len cap, .int .i64 lo, .int .i64 hi] w fun e w' => e = .returned (.bool true) ∧ Upd [] w w' := by
  have H := hid (bytes11_big w ao len cap lo hi hl hm)
  go_enter Try.func5, Try.ntmps5
  go_wp2_with (go_at_call 11; refine H.out.mono ?_; rintro e w1 ⟨rfl, rfl⟩)
  go_ret
  exact ⟨rfl, Upd.refl _ _⟩

set_option maxRecDepth 100000 in
set_option maxHeartbeats 2000000 in
theorem law5_long (w : World) (ao : Option Addr) (len cap : Nat) (lo hi : Int) (hl : len ≤ 1048576) (hm : 65536 < len) :
    Calls Try.prog 5 #[.slice ao len cap, .int .i64 lo, .int .i64 hi] w fun e w' => e = .returned (.bool true) ∧ Upd [] w w' := by
  have H := hid (bytes11 w ao len cap lo hi hl)
  go_enter Try.func5, Try.ntmps5
  go_wp2_with (go_at_call 11; refine H.out.mono ?_; rintro e w1 ⟨rfl, rfl⟩)
  go_ret
  exact ⟨rfl, Upd.refl _ _⟩

set_option maxRecDepth 100000 in
set_option maxHeartbeats 2000000 in
theorem law5_cross (w : World) (ao : Option Addr) (len cap : Nat) (lo hi : Int) (hl : len ≤ 65536) (hlh : hi < lo) :
    Calls Try.prog 5 #[.slice ao len cap, .int .i64 lo, .int .i64 hi] w fun e w' => e = .returned (.bool true) ∧ Upd [] w w' := by
  have H := hid (bytes11 w ao len cap lo hi (by omega))
  go_enter Try.func5, Try.ntmps5
  go_wp2_with (go_at_call 11; refine H.out.mono ?_; rintro e w1 ⟨rfl, rfl⟩)
  go_ret
  exact ⟨rfl, Upd.refl _ _⟩

set_option maxRecDepth 100000 in
set_option maxHeartbeats 2000000 in
theorem law5_wide {w : World} {ao : Option Addr} {len cap : Nat} {aI : Nat → Int} {aN : Nat → Nat} (h : Ad w.heap.size w ao len aI aN) (lo hi : Int) (hl : len ≤ 65536) (hlh : lo ≤ hi) (mn mx : Int) (hmn : mnN lo aI len = mn) (hmx : mxN hi aI len = mx)
    (hb : (decide (-4611686018427387903 ≤ mn) && decide (mx ≤ 4611686018427387903) && decide (mx - mn < 65536)) = false) :
    Calls Try.prog 5 #[.slice ao len cap, .int .i64 lo, .int .i64 hi] w fun e w' => e = .returned (.bool true) ∧ Upd [] w w' := by
  have H := hid (bytes11 w ao len cap lo hi (by omega))
  have HW := hid (window_any (cap := cap) h hl lo hi mn mx hmn hmx false hb.symm (by have := (mn_le lo aI len).1; have := (mx_ge hi aI len).1; omega))
  clear h hmn hmx hb
  go_enter Try.func5, Try.ntmps5
  go_wp2_with (first | (go_at_call 11; refine H.out.mono ?_; rintro e w1 ⟨rfl, rfl⟩) | (go_at_call 12; refine HW.out.mono ?_; rintro e w1 ⟨rfl, rfl⟩))
  go_ret
  exact ⟨rfl, Upd.refl _ _⟩

set_option maxRecDepth 100000 in
set_option maxHeartbeats 2000000 in
theorem law5_over {w : World} {ao : Option Addr} {len cap : Nat} {aI : Nat → Int} {aN : Nat → Nat} (h : Ad w.heap.size w ao len aI aN) (lo hi : Int) (hl : len ≤ 65536) (hlh : lo ≤ hi) (mn mx : Int) (hmn : mnN lo aI len = mn) (hmx : mxN hi aI len = mx)
    (hw1 : -4611686018427387903 ≤ mn) (hw2 : mx ≤ 4611686018427387903) (hw3 : mx - mn < 65536) (hs : ¬ ∀ k, k < len → csN aI aN k (aI k) + aN k < 18446744073709551616) :
    Calls Try.prog 5 #[.slice ao len cap, .int .i64 lo, .int .i64 hi] w fun e w' => e = .returned (.bool true) ∧ Upd [] w w' := by
  have H := hid (bytes11 w ao len cap lo hi (by omega))
  have hle : mn ≤ mx := by have := (mn_le lo aI len).1; have := (mx_ge hi aI len).1; omega
  have HW := hid (window_any (cap := cap) h hl lo hi mn mx hmn hmx true (by rw [decide_eq_true hw1, decide_eq_true hw2, decide_eq_true hw3]; rfl) hle)
  obtain ⟨M, hM⟩ : ∃ M : Nat, mx - mn + 1 = (M : Int) := ⟨(mx - mn + 1).toNat, by omega⟩
  have HM := hid (model_bad (cap := cap) h (Nat.le_refl _) hl mn mx M hM (by omega) hw1 hw2 (fun k hk => ⟨by rw [← hmn]; exact (mn_le lo aI len).2 k hk, by rw [← hmx]; exact (mx_ge hi aI len).2 k hk⟩) hs)
  clear h hmn hmx hs
  go_enter Try.func5, Try.ntmps5
  go_wp2_with (first | (go_at_call 11; refine H.out.mono ?_; rintro e w1 ⟨rfl, rfl⟩) | (go_at_call 12; refine HW.out.mono ?_; rintro e w1 ⟨rfl, rfl⟩) | (go_at_call 13; refine HM.out.mono ?_; rintro e w1 ⟨rfl, u1⟩))
  go_ret
  exact ⟨rfl, u1⟩
end Go.Proofs.Qxb6616660a
