import Derived.Test.Qxb6616816aSame
namespace Go.Proofs.Qxb6616816a
open Go.RowKit Go.Qm

set_option maxRecDepth 100000 in
set_option maxHeartbeats 1000000 in
theorem bytes9_ok (a b q : List UInt8) (w : World) (h : a.length + b.length + q.length ≤ 1048576) :
    Calls Try.prog 9 #[.string (ba a), .string (ba b), .string (ba q)] w fun e w' => e = .returned (.bool true) ∧ w' = w := by
  have ha := ba_size a
  have hb := ba_size b
  have hq := ba_size q
  go_enter Try.func9, Try.ntmps9
  go_wp2
  go_ret
  exact ⟨rfl, rfl⟩
set_option maxRecDepth 100000 in
set_option maxHeartbeats 1000000 in
theorem bytes9_bad (a b q : List UInt8) (w : World) (h : ¬ a.length + b.length + q.length ≤ 1048576) :
    Calls Try.prog 9 #[.string (ba a), .string (ba b), .string (ba q)] w fun e w' => e = .returned (.bool false) ∧ w' = w := by
  have ha := ba_size a
  have hb := ba_size b
  have hq := ba_size q
  by_cases c1 : 1048576 < a.length
  · go_enter Try.func9, Try.ntmps9
    go_wp2
    go_ret
    exact ⟨rfl, rfl⟩
  by_cases c2 : 1048576 < b.length
  · go_enter Try.func9, Try.ntmps9
    go_wp2
    go_ret
    exact ⟨rfl, rfl⟩
  by_cases c3 : 1048576 < a.length + b.length
  · go_enter Try.func9, Try.ntmps9
    go_wp2
    go_ret
    exact ⟨rfl, rfl⟩
  by_cases c4 : 1048576 < q.length
  · go_enter Try.func9, Try.ntmps9
    go_wp2
    go_ret
    exact ⟨rfl, rfl⟩
  · go_enter Try.func9, Try.ntmps9
    go_wp2
    go_ret
    exact ⟨rfl, rfl⟩

set_option maxRecDepth 100000 in
set_option maxHeartbeats 1000000 in
theorem comma_bad (a b q : List UInt8) (w : World) (h : ¬ a.length + b.length + q.length ≤ 1048576) :
    Calls Try.prog 4 #[.string (ba a), .string (ba b), .string (ba q)] w fun e w' => e = .returned (.bool true) ∧ Upd [] w w' := by
  have H := hid (bytes9_bad a b q w h)
  clear h
  go_enter Try.func4, Try.ntmps4
  go_wp2_with (go_at_call 9; refine H.out.mono ?_; rintro e w1 ⟨rfl, hw1⟩; subst w1)
  go_ret
  exact ⟨rfl, Upd.refl _ _⟩

set_option maxRecDepth 100000 in
set_option maxHeartbeats 1000000 in
theorem comma_long (a b q : List UInt8) (w : World) (h : a.length + b.length + q.length ≤ 1048576) (hl : ¬ (a.length ≤ 262144 ∧ b.length ≤ 262144 ∧ q.length ≤ 262144)) :
    Calls Try.prog 4 #[.string (ba a), .string (ba b), .string (ba q)] w fun e w' => e = .returned (.bool true) ∧ Upd [] w w' := by
  have H := hid (bytes9_ok a b q w h)
  have ha := ba_size a
  have hb := ba_size b
  have hq := ba_size q
  by_cases c1 : 262144 < a.length
  · clear h hl
    go_enter Try.func4, Try.ntmps4
    go_wp2_with (go_at_call 9; refine H.out.mono ?_; rintro e w1 ⟨rfl, hw1⟩; subst w1)
    go_ret
    exact ⟨rfl, Upd.refl _ _⟩
  by_cases c2 : 262144 < b.length
  · clear h hl
    go_enter Try.func4, Try.ntmps4
    go_wp2_with (go_at_call 9; refine H.out.mono ?_; rintro e w1 ⟨rfl, hw1⟩; subst w1)
    go_ret
    exact ⟨rfl, Upd.refl _ _⟩
  · have c3 : 262144 < q.length := by omega
    clear h hl
    go_enter Try.func4, Try.ntmps4
    go_wp2_with (go_at_call 9; refine H.out.mono ?_; rintro e w1 ⟨rfl, hw1⟩; subst w1)
    go_ret
    exact ⟨rfl, Upd.refl _ _⟩

set_option maxRecDepth 100000 in
set_option maxHeartbeats 2000000 in
theorem comma_has (a b q : List UInt8) (w : World) (h1 : a.length ≤ 262144) (h2 : b.length ≤ 262144) (h3 : q.length ≤ 262144) (x y z : Bool) (hx : has 34 a = x) (hy : has 34 q = y) (hz : has 92 q = z) (hh : (x || y || z) = true) :
    Calls Try.prog 4 #[.string (ba a), .string (ba b), .string (ba q)] w fun e w' => e = .returned (.bool true) ∧ Upd [] w w' := by
  have H := hid (bytes9_ok a b q w (by omega))
  have HX := hid (has_any a 34 34 rfl w (by omega))
  have HY := hid (has_any q 34 34 rfl w (by omega))
  have HZ := hid (has_any q 92 92 rfl w (by omega))
  rw [hx] at HX
  rw [hy] at HY
  rw [hz] at HZ
  have ha := ba_size a
  have hb := ba_size b
  have hq := ba_size q
  clear hx hy hz
  cases x with
  | true =>
    clear hh
    go_enter Try.func4, Try.ntmps4
    go_wp2_with (first | (go_at_call 9; refine H.out.mono ?_; rintro e w1 ⟨rfl, hw1⟩; subst w1) | (go_at_call 10; refine HX.out.mono ?_; rintro e w1 ⟨rfl, hw1⟩; subst w1))
    go_ret
    exact ⟨rfl, Upd.refl _ _⟩
  | false =>
    cases y with
    | true =>
      clear hh
      go_enter Try.func4, Try.ntmps4
      go_wp2_with (go_at_call 9; refine H.out.mono ?_; rintro e w1 ⟨rfl, hw1⟩; subst w1)
      go_at_call 10
      refine HX.out.mono ?_
      rintro e w1 ⟨rfl, hw1⟩
      subst w1
      go_wp2_with (fail)
      go_at_call 10
      refine HY.out.mono ?_
      rintro e w1 ⟨rfl, hw1⟩
      subst w1
      go_wp2
      go_ret
      exact ⟨rfl, Upd.refl _ _⟩
    | false =>
      have hz : z = true := by simpa using hh
      subst hz
      clear hh
      go_enter Try.func4, Try.ntmps4
      go_wp2_with (go_at_call 9; refine H.out.mono ?_; rintro e w1 ⟨rfl, hw1⟩; subst w1)
      go_at_call 10
      refine HX.out.mono ?_
      rintro e w1 ⟨rfl, hw1⟩
      subst w1
      go_wp2_with (fail)
      go_at_call 10
      refine HY.out.mono ?_
      rintro e w1 ⟨rfl, hw1⟩
      subst w1
      go_wp2_with (fail)
      go_at_call 10
      refine HZ.out.mono ?_
      rintro e w1 ⟨rfl, hw1⟩
      subst w1
      go_wp2
      go_ret
      exact ⟨rfl, Upd.refl _ _⟩
end Go.Proofs.Qxb6616816a
