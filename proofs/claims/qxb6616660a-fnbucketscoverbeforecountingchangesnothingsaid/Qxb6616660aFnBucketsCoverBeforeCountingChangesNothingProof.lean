import Derived.Test.Qxb6616660aLaw6c
import Derived.Test.Qxb6616660aOpen
namespace Go.Proofs.Qxb6616660a.fnBucketsCoverBeforeCountingChangesNothing
open Go.ChangeShapes Go.WideShapes Go.ChangeAt Go.RowKit Go.Qm
set_option linter.unusedVariables false

theorem walk {W : World} {ao : Option Addr} {len cap : Nat} {aI : Nat → Int} {aN : Nat → Nat} (h : Ad W.heap.size W ao len aI aN) (hm : len ≤ maxLen) (lo hi a3 a4 : Int) (w3 : (Lit.int .u64 a3).wf = true) (w4 : (Lit.int .u64 a4).wf = true) :
    Calls Try.prog 6 #[.slice ao len cap, .int .i64 lo, .int .i64 hi, .int .u64 a3, .int .u64 a4] W fun e w' => e = .returned (.bool true) ∧ Below W.heap.size W w' := by
  have b3 := bounds_u64 w3
  have b4 := bounds_u64 w4
  obtain ⟨m1, rfl⟩ := Int.eq_ofNat_of_zero_le (show 0 ≤ a3 by omega)
  obtain ⟨m2, rfl⟩ := Int.eq_ofNat_of_zero_le (show 0 ≤ a4 by omega)
  have key : Calls Try.prog 6 #[.slice ao len cap, .int .i64 lo, .int .i64 hi, .int .u64 (m1 : Int), .int .u64 (m2 : Int)] W fun e w' => e = .returned (.bool true) ∧ Upd [] W w' := by
    by_cases c1 : 1048576 < len
    · exact law6_big W ao len cap lo hi m1 m2 c1 (by unfold maxLen at hm; omega)
    by_cases c2 : 65536 < len
    · exact law6_long W ao len cap lo hi m1 m2 (by omega) c2
    by_cases c3 : hi < lo
    · exact law6_cross W ao len cap lo hi m1 m2 (by omega) c3
    by_cases d1 : -4611686018427387903 ≤ mnN lo aI len
    · by_cases d2 : mxN hi aI len ≤ 4611686018427387903
      · by_cases d3 : mxN hi aI len - mnN lo aI len < 65536
        · by_cases hs : ∀ k, k < len → csN aI aN k (aI k) + aN k < 18446744073709551616
          · by_cases q : csN aI aN len lo + m1 < 18446744073709551616 ∧ bump (csN aI aN len) lo m1 hi + m2 < 18446744073709551616
            · exact law6_main h lo hi m1 m2 (by omega) (by omega) _ _ rfl rfl d1 d2 d3 hs q.1 q.2
            · exact law6_madd h lo hi m1 m2 (by omega) (by omega) _ _ rfl rfl d1 d2 d3 hs q
          · exact law6_over h lo hi m1 m2 (by omega) (by omega) _ _ rfl rfl d1 d2 d3 hs
        · exact law6_wide h lo hi m1 m2 (by omega) (by omega) _ _ rfl rfl (by rw [decide_eq_false d3]; simp)
      · exact law6_wide h lo hi m1 m2 (by omega) (by omega) _ _ rfl rfl (by rw [decide_eq_false d2]; simp)
    · exact law6_wide h lo hi m1 m2 (by omega) (by omega) _ _ rfl rfl (by rw [decide_eq_false d1]; simp)
  refine key.mono ?_
  rintro e w' ⟨rfl, hu⟩
  exact ⟨rfl, hu.below (Nat.le_refl _) (by simp)⟩

set_option maxRecDepth 100000 in
theorem lifted (os : Os) (started : os.Started) (H : Type) (enc : TypeId × Value → H) :
    ReturnsInHanded {} Try.checked os 6 .any (Rows.fnBucketsCoverBeforeCountingChangesNothingSpec.pre6 enc Try.prog Try.f6 Rows.fnBucketsCoverBeforeCountingChangesNothingRow.domain false) (Rows.fnBucketsCoverBeforeCountingChangesNothingSpec.post enc Try.prog Try.f6 false true false false) := by
  refine returnsInHanded_of_change (C := Try.checked) own0 started (by kernel_rfl) Try.func6
    (ChangeSpec.witness6 (enc := enc) (C := Try.checked) false ⟨#[], #[.slice none 0 0, .int .i64 0, .int .i64 0, .int .u64 0, .int .u64 0], []⟩ 8 (by kernel_rfl) (by kernel_rfl) (by kernel_rfl) (by kernel_rfl)) ?_
  intro W base args ds gs before hval0 hW hcnd _
  have hval : ∀ (j : Nat) t v, Try.f6.params[j]? = some t → args[j]? = some v → Value.okWide Try.prog W .any base t v := hval0
  have hW' := hW
  obtain ⟨p, q, hA0, hV, rfl, hfz, hnd⟩ := hW
  have hA : DataW.TrodAll enc Try.prog W 0 (fun _ => true) true Try.f6.params.toList args.toList ds p := hA0
  rw [Try.params6] at hA hval
  obtain ⟨v0, vs0, d0, ds0, p0, q0, hargs, rfl, rfl, h0, r0⟩ := trodAll_cons hA
  obtain ⟨v1, vs1, d1, ds1, p1, q1, rfl, rfl, rfl, h1, r1⟩ := trodAll_cons r0
  obtain ⟨v2, vs2, d2, ds2, p2, q2, rfl, rfl, rfl, h2, r2⟩ := trodAll_cons r1
  obtain ⟨v3, vs3, d3, ds3, p3, q3, rfl, rfl, rfl, h3, r3⟩ := trodAll_cons r2
  obtain ⟨v4, vs4, d4, ds4, p4, q4, rfl, rfl, rfl, h4, r4⟩ := trodAll_cons r3
  obtain ⟨rfl, rfl, rfl⟩ := trodAll_nil r4
  obtain rfl : args = #[v0, v1, v2, v3, v4] := by cases args; simp_all
  obtain ⟨rfl, rfl⟩ := trodVars_none hV
  obtain ⟨a0, len0, cap0, rfl⟩ := okWide_slice Try.underlying30 (hval 0 30 v0 rfl rfl)
  obtain ⟨a1, rfl, rfl, rfl, w1⟩ := open_int Try.underlying3 (hval 1 3 v1 rfl rfl) h1
  obtain ⟨a2, rfl, rfl, rfl, w2⟩ := open_int Try.underlying3 (hval 2 3 v2 rfl rfl) h2
  obtain ⟨a3, rfl, rfl, rfl, w3⟩ := open_int Try.underlying25 (hval 3 25 v3 rfl rfl) h3
  obtain ⟨a4, rfl, rfl, rfl, w4⟩ := open_int Try.underlying25 (hval 4 25 v4 rfl rfl) h4
  have k0 := h0
  have lt0 : ∀ x ∈ p0, x.block < W.heap.size := by obtain ⟨m, hm⟩ := k0; exact DataW.trod_lt m _ _ _ hm
  obtain ⟨aI, aN, b0, m0⟩ : ∃ aI aN, Ad W.heap.size W a0 len0 aI aN ∧ len0 ≤ maxLen := by obtain ⟨fuel, hf⟩ := h0; exact ad_of hf
  clear hA0 hval0
  refine (walk b0 m0 a1 a2 a3 a4 w3 w4).mono fun e W' ⟨he, bel⟩ => ?_
  subst he
  exact ⟨_, rfl, _, _, _, [], _, [], hW', trodAll_mk1 (shut_bool Try.underlying4 _), (trodAll_cons_mk (Below.trod laidOut (by kernel_rfl) (of_decide_eq_true (by kernel_rfl)) k0 bel lt0) (trodAll_cons_mk (shut_int Try.underlying3 w1) (trodAll_cons_mk (shut_int Try.underlying3 w2) (trodAll_cons_mk (shut_int Try.underlying25 w3) (trodAll_cons_mk (shut_int Try.underlying25 w4) trodAll_mk0))))), rfl, bel.frame _, fun h => by cases h⟩

theorem over : Rows.fnBucketsCoverBeforeCountingChangesNothingRow.holds Try.pinned (OpenSpec.ofChange Rows.fnBucketsCoverBeforeCountingChangesNothingSpec) :=
  OpenClaim.holds_of_wide 6 Try.f6 rfl rfl rfl rfl rfl rfl rfl ⟨rfl, rfl, rfl, rfl, rfl⟩ rfl rfl rfl rfl rfl (by kernel_rfl) Try.func6 (by kernel_rfl)
    (of_decide_eq_true (by kernel_rfl)) (by unfold Func.isWrapper; first | (rw [if_pos (by decide +kernel)]; kernel_rfl) | (rw [if_neg (by decide +kernel)]; exact ⟨rfl, rfl⟩))
    (fun os started H enc _ => lifted os started H enc)

theorem proved : Rows.FnBucketsCoverBeforeCountingChangesNothingSaid := over
#print axioms proved
end Go.Proofs.Qxb6616660a.fnBucketsCoverBeforeCountingChangesNothing
