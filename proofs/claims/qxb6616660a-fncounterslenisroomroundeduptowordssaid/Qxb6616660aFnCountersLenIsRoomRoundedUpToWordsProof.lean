import Derived.Test.Qxb6616660aZz
import Derived.Test.Qxb6616660aRows
import Derived.WalkKit
import Derived.ProofKit
import Derived.OpenShut
import Derived.ShutString
import Derived.ChangeOld
import Derived.Below
namespace Go.Proofs.Qxb6616660a.fnCountersLenIsRoomRoundedUpToWords
open Go.ChangeShapes Go.WideShapes Go.ChangeAt Go.RowKit Go.Qm
open Go.ChangeMaps (open_string shut_string)
set_option linter.unusedVariables false      -- a walk need not use every 'w<i>' (that an integer argument fits its kind)

theorem own : ownKnob Try.prog.godebug = none := by kernel_rfl

/-! ### STEP 1: THE WALK: the Go text returns true, and writes nothing that was there. -/
set_option maxHeartbeats 400000 in
theorem walk_main3 (n : Nat) (w : World) (hn : n ≤ 65536) :
    Calls Try.prog 3 #[.int .i64 n, .int .u8 3] w fun e w' => e = .returned (.bool true) ∧ Below w.heap.size w w' := by
  obtain ⟨m, hm⟩ : ∃ m, (n + 8 - 1) / 8 = m := ⟨_, rfl⟩
  obtain ⟨l, hl⟩ : ∃ l, m * 8 = l := ⟨_, rfl⟩
  have h1 : n ≤ l := by omega
  have h2 : l < n + 8 := by omega
  have h3 : ((l : Int) % 8 != 0) = false := by simp <;> omega
  have t1 : decide (l < n) = false := by simp; omega
  have t2 : decide ((l : Int) < n) = false := by simp; omega
  have t3 : decide (n + 8 ≤ l) = false := by simp; omega
  have t4 : decide ((n : Int) + 8 ≤ (l : Int)) = false := by simp; omega
  have H0 := fun wx => zmake_any n m 3 wx (by decide) (by decide) (by omega) hm
  simp only [Int.cast_ofNat_Int] at H0
  have H1 := hid H0
  clear H0
  have HL : Hid (m * 8 = l) := hl
  clear hm hl
  go_enter Try.func3, Try.ntmps3
  go_wp2_with (first | (go_at_call 7; refine (H1.out _).mono ?_; rintro e w1 ⟨b, g, hb, hg, rfl, hcn, hupd⟩) | (go_at_call 8; refine (zlen_any hcn l (by rw [List.length_replicate]; exact HL.out)).mono ?_; rintro e w2 ⟨rfl, q, rfl⟩))
  go_loopw [8] (fun i wr => ∃ k : Nat, k ≤ l ∧ i = .int .i64 k ∧ ∃ q, wr = w1.drewN q) (fun i _ => l - (intOf i).toNat)
  case atStart => exact ⟨0, Nat.zero_le _, rfl, _, rfl⟩
  case round =>
    obtain ⟨k, hk, rfl, q, rfl⟩ := hrel
    by_cases hlt : k < l
    · go_wp2_with (go_at_call 9; refine (zat_any (hcn.drewN q) k (by rw [List.length_replicate, per3, HL.out]; exact hlt) 0 (fld_zero _ _ _)).mono ?_; rintro e w2 ⟨rfl, q2, rfl⟩)
      go_roundw
      case rel => exact ⟨k + 1, by omega, by go_num, _, rfl⟩
      case measure => simp [intOf]; omega
    · go_wp2
      go_ret
      exact ⟨rfl, (hupd.trans (Upd.drewN _ _ q)).below (Nat.le_refl _) (by simp)⟩
set_option maxHeartbeats 400000 in
theorem walk_main4 (n : Nat) (w : World) (hn : n ≤ 65536) :
    Calls Try.prog 3 #[.int .i64 n, .int .u8 4] w fun e w' => e = .returned (.bool true) ∧ Below w.heap.size w w' := by
  obtain ⟨m, hm⟩ : ∃ m, (n + 4 - 1) / 4 = m := ⟨_, rfl⟩
  obtain ⟨l, hl⟩ : ∃ l, m * 4 = l := ⟨_, rfl⟩
  have h1 : n ≤ l := by omega
  have h2 : l < n + 4 := by omega
  have h3 : ((l : Int) % 4 != 0) = false := by simp <;> omega
  have t1 : decide (l < n) = false := by simp; omega
  have t2 : decide ((l : Int) < n) = false := by simp; omega
  have t3 : decide (n + 4 ≤ l) = false := by simp; omega
  have t4 : decide ((n : Int) + 4 ≤ (l : Int)) = false := by simp; omega
  have H0 := fun wx => zmake_any n m 4 wx (by decide) (by decide) (by omega) hm
  simp only [Int.cast_ofNat_Int] at H0
  have H1 := hid H0
  clear H0
  have HL : Hid (m * 4 = l) := hl
  clear hm hl
  go_enter Try.func3, Try.ntmps3
  go_wp2_with (first | (go_at_call 7; refine (H1.out _).mono ?_; rintro e w1 ⟨b, g, hb, hg, rfl, hcn, hupd⟩) | (go_at_call 8; refine (zlen_any hcn l (by rw [List.length_replicate]; exact HL.out)).mono ?_; rintro e w2 ⟨rfl, q, rfl⟩))
  go_loopw [8] (fun i wr => ∃ k : Nat, k ≤ l ∧ i = .int .i64 k ∧ ∃ q, wr = w1.drewN q) (fun i _ => l - (intOf i).toNat)
  case atStart => exact ⟨0, Nat.zero_le _, rfl, _, rfl⟩
  case round =>
    obtain ⟨k, hk, rfl, q, rfl⟩ := hrel
    by_cases hlt : k < l
    · go_wp2_with (go_at_call 9; refine (zat_any (hcn.drewN q) k (by rw [List.length_replicate, per4, HL.out]; exact hlt) 0 (fld_zero _ _ _)).mono ?_; rintro e w2 ⟨rfl, q2, rfl⟩)
      go_roundw
      case rel => exact ⟨k + 1, by omega, by go_num, _, rfl⟩
      case measure => simp [intOf]; omega
    · go_wp2
      go_ret
      exact ⟨rfl, (hupd.trans (Upd.drewN _ _ q)).below (Nat.le_refl _) (by simp)⟩
set_option maxHeartbeats 400000 in
theorem walk_main5 (n : Nat) (w : World) (hn : n ≤ 65536) :
    Calls Try.prog 3 #[.int .i64 n, .int .u8 5] w fun e w' => e = .returned (.bool true) ∧ Below w.heap.size w w' := by
  obtain ⟨m, hm⟩ : ∃ m, (n + 2 - 1) / 2 = m := ⟨_, rfl⟩
  obtain ⟨l, hl⟩ : ∃ l, m * 2 = l := ⟨_, rfl⟩
  have h1 : n ≤ l := by omega
  have h2 : l < n + 2 := by omega
  have h3 : ((l : Int) % 2 != 0) = false := by simp <;> omega
  have t1 : decide (l < n) = false := by simp; omega
  have t2 : decide ((l : Int) < n) = false := by simp; omega
  have t3 : decide (n + 2 ≤ l) = false := by simp; omega
  have t4 : decide ((n : Int) + 2 ≤ (l : Int)) = false := by simp; omega
  have H0 := fun wx => zmake_any n m 5 wx (by decide) (by decide) (by omega) hm
  simp only [Int.cast_ofNat_Int] at H0
  have H1 := hid H0
  clear H0
  have HL : Hid (m * 2 = l) := hl
  clear hm hl
  go_enter Try.func3, Try.ntmps3
  go_wp2_with (first | (go_at_call 7; refine (H1.out _).mono ?_; rintro e w1 ⟨b, g, hb, hg, rfl, hcn, hupd⟩) | (go_at_call 8; refine (zlen_any hcn l (by rw [List.length_replicate]; exact HL.out)).mono ?_; rintro e w2 ⟨rfl, q, rfl⟩))
  go_loopw [8] (fun i wr => ∃ k : Nat, k ≤ l ∧ i = .int .i64 k ∧ ∃ q, wr = w1.drewN q) (fun i _ => l - (intOf i).toNat)
  case atStart => exact ⟨0, Nat.zero_le _, rfl, _, rfl⟩
  case round =>
    obtain ⟨k, hk, rfl, q, rfl⟩ := hrel
    by_cases hlt : k < l
    · go_wp2_with (go_at_call 9; refine (zat_any (hcn.drewN q) k (by rw [List.length_replicate, per5, HL.out]; exact hlt) 0 (fld_zero _ _ _)).mono ?_; rintro e w2 ⟨rfl, q2, rfl⟩)
      go_roundw
      case rel => exact ⟨k + 1, by omega, by go_num, _, rfl⟩
      case measure => simp [intOf]; omega
    · go_wp2
      go_ret
      exact ⟨rfl, (hupd.trans (Upd.drewN _ _ q)).below (Nat.le_refl _) (by simp)⟩
set_option maxHeartbeats 400000 in
theorem walk_main6 (n : Nat) (w : World) (hn : n ≤ 65536) :
    Calls Try.prog 3 #[.int .i64 n, .int .u8 6] w fun e w' => e = .returned (.bool true) ∧ Below w.heap.size w w' := by
  obtain ⟨m, hm⟩ : ∃ m, (n + 1 - 1) / 1 = m := ⟨_, rfl⟩
  obtain ⟨l, hl⟩ : ∃ l, m * 1 = l := ⟨_, rfl⟩
  have h1 : n ≤ l := by omega
  have h2 : l < n + 1 := by omega
  have h3 : ((l : Int) % 1 != 0) = false := by simp <;> omega
  have t1 : decide (l < n) = false := by simp; omega
  have t2 : decide ((l : Int) < n) = false := by simp; omega
  have t3 : decide (n + 1 ≤ l) = false := by simp; omega
  have t4 : decide ((n : Int) + 1 ≤ (l : Int)) = false := by simp; omega
  have H0 := fun wx => zmake_any n m 6 wx (by decide) (by decide) (by omega) hm
  simp only [Int.cast_ofNat_Int] at H0
  have H1 := hid H0
  clear H0
  have HL : Hid (m * 1 = l) := hl
  clear hm hl
  go_enter Try.func3, Try.ntmps3
  go_wp2_with (first | (go_at_call 7; refine (H1.out _).mono ?_; rintro e w1 ⟨b, g, hb, hg, rfl, hcn, hupd⟩) | (go_at_call 8; refine (zlen_any hcn l (by rw [List.length_replicate]; exact HL.out)).mono ?_; rintro e w2 ⟨rfl, q, rfl⟩))
  go_loopw [8] (fun i wr => ∃ k : Nat, k ≤ l ∧ i = .int .i64 k ∧ ∃ q, wr = w1.drewN q) (fun i _ => l - (intOf i).toNat)
  case atStart => exact ⟨0, Nat.zero_le _, rfl, _, rfl⟩
  case round =>
    obtain ⟨k, hk, rfl, q, rfl⟩ := hrel
    by_cases hlt : k < l
    · go_wp2_with (go_at_call 9; refine (zat_any (hcn.drewN q) k (by rw [List.length_replicate, per6, HL.out]; exact hlt) 0 (fld_zero _ _ _)).mono ?_; rintro e w2 ⟨rfl, q2, rfl⟩)
      go_roundw
      case rel => exact ⟨k + 1, by omega, by go_num, _, rfl⟩
      case measure => simp [intOf]; omega
    · go_wp2
      go_ret
      exact ⟨rfl, (hupd.trans (Upd.drewN _ _ q)).below (Nat.le_refl _) (by simp)⟩

theorem walk (a0 : Int) (a1 : Int) (w0 : (Lit.int .i64 a0).wf = true) (w1 : (Lit.int .u8 a1).wf = true) (w : World) :
    Calls Try.prog 3 #[.int .i64 a0, .int .u8 a1] w fun e w' => e = .returned (.bool true) ∧ Below w.heap.size w w' := by
  by_cases c1 : a0 < 0
  · go_enter Try.func3, Try.ntmps3
    go_wp2
    go_ret
    exact ⟨rfl, Below.refl _ _⟩
  by_cases c2 : 65536 < a0
  · go_enter Try.func3, Try.ntmps3
    go_wp2
    go_ret
    exact ⟨rfl, Below.refl _ _⟩
  by_cases c3 : a1 < 3
  · go_enter Try.func3, Try.ntmps3
    go_wp2
    go_ret
    exact ⟨rfl, Below.refl _ _⟩
  by_cases c4 : 6 < a1
  · go_enter Try.func3, Try.ntmps3
    go_wp2
    go_ret
    exact ⟨rfl, Below.refl _ _⟩
  obtain ⟨n, rfl⟩ := Int.eq_ofNat_of_zero_le (show 0 ≤ a0 by omega)
  rcases (show a1 = 3 ∨ a1 = 4 ∨ a1 = 5 ∨ a1 = 6 by omega) with rfl | rfl | rfl | rfl
  · exact walk_main3 n w (by omega)
  · exact walk_main4 n w (by omega)
  · exact walk_main5 n w (by omega)
  · exact walk_main6 n w (by omega)

/-! ### THE ROW's STEP: WRITTEN OUT: LEAVE IT -/
set_option maxRecDepth 100000 in
theorem lifted (os : Os) (started : os.Started) (H : Type) (enc : TypeId × Value → H) :
    ReturnsInHanded {} Try.checked os 3 .any (Rows.fnCountersLenIsRoomRoundedUpToWordsSpec.pre6 enc Try.prog Try.f3 Rows.fnCountersLenIsRoomRoundedUpToWordsRow.domain false) (Rows.fnCountersLenIsRoomRoundedUpToWordsSpec.post enc Try.prog Try.f3 false true false false) := by
  refine returnsInHanded_of_change (C := Try.checked) own started (by kernel_rfl) Try.func3
    (ChangeSpec.witness6 (enc := enc) (C := Try.checked) false ⟨#[], #[.int .i64 0, .int .u8 0], []⟩ 8 (by kernel_rfl) (by kernel_rfl) (by kernel_rfl) (by kernel_rfl)) ?_
  intro W base args ds gs before hval0 hW hcnd _
  have hval : ∀ (j : Nat) t v, Try.f3.params[j]? = some t → args[j]? = some v → Value.okWide Try.prog W .any base t v := hval0
  have hW' := hW
  obtain ⟨p, q, hA0, hV, rfl, hfz, hnd⟩ := hW
  have hA : DataW.TrodAll enc Try.prog W 0 (fun _ => true) true Try.f3.params.toList args.toList ds p := hA0
  rw [Try.params3] at hA hval
  obtain ⟨v0, vs0, d0, ds0, p0, q0, hargs, rfl, rfl, h0, r0⟩ := trodAll_cons hA
  obtain ⟨v1, vs1, d1, ds1, p1, q1, rfl, rfl, rfl, h1, r1⟩ := trodAll_cons r0
  obtain ⟨rfl, rfl, rfl⟩ := trodAll_nil r1
  obtain rfl : args = #[v0, v1] := by cases args; simp_all
  obtain ⟨rfl, rfl⟩ := trodVars_none hV
  obtain ⟨a0, rfl, rfl, rfl, w0⟩ := open_int Try.underlying3 (hval 0 3 v0 rfl rfl) h0
  obtain ⟨a1, rfl, rfl, rfl, w1⟩ := open_int Try.underlying5 (hval 1 5 v1 rfl rfl) h1
  clear hA0 hval0
  refine (walk a0 a1 w0 w1 W).mono fun e W' ⟨he, bel⟩ => ?_
  subst he
  exact ⟨_, rfl, _, _, _, [], _, [], hW', trodAll_mk1 (shut_bool Try.underlying4 _), (trodAll_cons_mk (shut_int Try.underlying3 w0) (trodAll_cons_mk (shut_int Try.underlying5 w1) trodAll_mk0)), rfl, bel.frame _, fun h => by cases h⟩

theorem over : Rows.fnCountersLenIsRoomRoundedUpToWordsRow.holds Try.pinned (OpenSpec.ofChange Rows.fnCountersLenIsRoomRoundedUpToWordsSpec) :=
  OpenClaim.holds_of_wide 3 Try.f3 rfl rfl rfl rfl rfl rfl rfl ⟨rfl, rfl, rfl, rfl, rfl⟩ rfl rfl rfl rfl rfl (by kernel_rfl) Try.func3 (by kernel_rfl)
    (of_decide_eq_true (by kernel_rfl)) (by unfold Func.isWrapper; first | (rw [if_pos (by decide +kernel)]; kernel_rfl) | (rw [if_neg (by decide +kernel)]; exact ⟨rfl, rfl⟩))
    (fun os started H enc _ => lifted os started H enc)

/-- ████ THE STATEMENT ████ -/
theorem proved : Rows.FnCountersLenIsRoomRoundedUpToWordsSaid :=
  over
#print axioms proved
end Go.Proofs.Qxb6616660a.fnCountersLenIsRoomRoundedUpToWords
