import Derived.Test.Qxb6616660aLaw5b
import Derived.Test.Qxb6616660aOpen
namespace Go.Proofs.Qxb6616660a.fnBucketsCoverReachesKeepsAndSettles
open Go.ChangeShapes Go.WideShapes Go.ChangeAt Go.RowKit Go.Qm
set_option linter.unusedVariables false

theorem walk {W : World} {ao : Option Addr} {len cap : Nat} {aI : Nat → Int} {aN : Nat → Nat} (h : Ad W.heap.size W ao len aI aN) (hm : len ≤ maxLen) (lo hi : Int) :
    Calls Try.prog 5 #[.slice ao len cap, .int .i64 lo, .int .i64 hi] W fun e w' => e = .returned (.bool true) ∧ Below W.heap.size W w' := by
  have key : Calls Try.prog 5 #[.slice ao len cap, .int .i64 lo, .int .i64 hi] W fun e w' => e = .returned (.bool true) ∧ Upd [] W w' := by
    by_cases c1 : 1048576 < len
    · exact law5_big W ao len cap lo hi c1 (by unfold maxLen at hm; omega)
    by_cases c2 : 65536 < len
    · exact law5_long W ao len cap lo hi (by omega) c2
    by_cases c3 : hi < lo
    · exact law5_cross W ao len cap lo hi (by omega) c3
    by_cases d1 : -4611686018427387903 ≤ mnN lo aI len
    · by_cases d2 : mxN hi aI len ≤ 4611686018427387903
      · by_cases d3 : mxN hi aI len - mnN lo aI len < 65536
        · by_cases hs : ∀ k, k < len → csN aI aN k (aI k) + aN k < 18446744073709551616
          · by_cases q : len = 0
            · exact law5_none h lo hi (by omega) q (by omega) _ _ rfl rfl d1 d2 d3 hs
            · exact law5_some h lo hi (by omega) (by omega) (by omega) _ _ rfl rfl d1 d2 d3 hs
          · exact law5_over h lo hi (by omega) (by omega) _ _ rfl rfl d1 d2 d3 hs
        · exact law5_wide h lo hi (by omega) (by omega) _ _ rfl rfl (by rw [decide_eq_false d3]; simp)
      · exact law5_wide h lo hi (by omega) (by omega) _ _ rfl rfl (by rw [decide_eq_false d2]; simp)
    · exact law5_wide h lo hi (by omega) (by omega) _ _ rfl rfl (by rw [decide_eq_false d1]; simp)
  refine key.mono ?_
  rintro e w' ⟨rfl, hu⟩
  exact ⟨rfl, hu.below (Nat.le_refl _) (by simp)⟩

set_option maxRecDepth 100000 in
theorem lifted (os : Os) (started : os.Started) (H : Type) (enc : TypeId × Value → H) :
    ReturnsInHanded {} Try.checked os 5 .any (Rows.fnBucketsCoverReachesKeepsAndSettlesSpec.pre6 enc Try.prog Try.f5 Rows.fnBucketsCoverReachesKeepsAndSettlesRow.domain false) (Rows.fnBucketsCoverReachesKeepsAndSettlesSpec.post enc Try.prog Try.f5 false true false false) := by
  refine returnsInHanded_of_change (C := Try.checked) own0 started (by kernel_rfl) Try.func5
    (ChangeSpec.witness6 (enc := enc) (C := Try.checked) false ⟨#[], #[.slice none 0 0, .int .i64 0, .int .i64 0], []⟩ 8 (by kernel_rfl) (by kernel_rfl) (by kernel_rfl) (by kernel_rfl)) ?_
  intro W base args ds gs before hval0 hW hcnd _
  have hval : ∀ (j : Nat) t v, Try.f5.params[j]? = some t → args[j]? = some v → Value.okWide Try.prog W .any base t v := hval0
  have hW' := hW
  obtain ⟨p, q, hA0, hV, rfl, hfz, hnd⟩ := hW
  have hA : DataW.TrodAll enc Try.prog W 0 (fun _ => true) true Try.f5.params.toList args.toList ds p := hA0
  rw [Try.params5] at hA hval
  obtain ⟨v0, vs0, d0, ds0, p0, q0, hargs, rfl, rfl, h0, r0⟩ := trodAll_cons hA
  obtain ⟨v1, vs1, d1, ds1, p1, q1, rfl, rfl, rfl, h1, r1⟩ := trodAll_cons r0
  obtain ⟨v2, vs2, d2, ds2, p2, q2, rfl, rfl, rfl, h2, r2⟩ := trodAll_cons r1
  obtain ⟨rfl, rfl, rfl⟩ := trodAll_nil r2
  obtain rfl : args = #[v0, v1, v2] := by cases args; simp_all
  obtain ⟨rfl, rfl⟩ := trodVars_none hV
  obtain ⟨a0, len0, cap0, rfl⟩ := okWide_slice Try.underlying30 (hval 0 30 v0 rfl rfl)
  obtain ⟨a1, rfl, rfl, rfl, w1⟩ := open_int Try.underlying3 (hval 1 3 v1 rfl rfl) h1
  obtain ⟨a2, rfl, rfl, rfl, w2⟩ := open_int Try.underlying3 (hval 2 3 v2 rfl rfl) h2
  have k0 := h0
  have lt0 : ∀ x ∈ p0, x.block < W.heap.size := by obtain ⟨m, hm⟩ := k0; exact DataW.trod_lt m _ _ _ hm
  obtain ⟨aI, aN, b0, m0⟩ : ∃ aI aN, Ad W.heap.size W a0 len0 aI aN ∧ len0 ≤ maxLen := by obtain ⟨fuel, hf⟩ := h0; exact ad_of hf
  clear hA0 hval0
  refine (walk b0 m0 a1 a2).mono fun e W' ⟨he, bel⟩ => ?_
  subst he
  exact ⟨_, rfl, _, _, _, [], _, [], hW', trodAll_mk1 (shut_bool Try.underlying4 _), (trodAll_cons_mk (Below.trod laidOut (by kernel_rfl) (of_decide_eq_true (by kernel_rfl)) k0 bel lt0) (trodAll_cons_mk (shut_int Try.underlying3 w1) (trodAll_cons_mk (shut_int Try.underlying3 w2) trodAll_mk0))), rfl, bel.frame _, fun h => by cases h⟩

theorem over : Rows.fnBucketsCoverReachesKeepsAndSettlesRow.holds Try.pinned (OpenSpec.ofChange Rows.fnBucketsCoverReachesKeepsAndSettlesSpec) :=
  OpenClaim.holds_of_wide 5 Try.f5 rfl rfl rfl rfl rfl rfl rfl ⟨rfl, rfl, rfl, rfl, rfl⟩ rfl rfl rfl rfl rfl (by kernel_rfl) Try.func5 (by kernel_rfl)
    (of_decide_eq_true (by kernel_rfl)) (by unfold Func.isWrapper; first | (rw [if_pos (by decide +kernel)]; kernel_rfl) | (rw [if_neg (by decide +kernel)]; exact ⟨rfl, rfl⟩))
    (fun os started H enc _ => lifted os started H enc)

theorem proved : Rows.FnBucketsCoverReachesKeepsAndSettlesSaid := over
#print axioms proved
end Go.Proofs.Qxb6616660a.fnBucketsCoverReachesKeepsAndSettles
