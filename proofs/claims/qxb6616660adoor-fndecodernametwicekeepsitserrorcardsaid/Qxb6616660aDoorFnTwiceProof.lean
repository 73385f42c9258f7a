import Derived.Test.Qxb6616660aDoorLaid
import Derived.Test.Qxb6616660aDoorLawTwice
import Derived.Test.Qxb6616660aDoorTie
import Derived.Test.Qxb6616660aDoorCards
import Derived.SevenTiedAt
namespace Go.Proofs.Qxb6616660aDoor.fnTwice
open Go.ChangeShapes Go.WideShapes Go.ChangeAt Go.RowKit Go.Qm
set_option linter.unusedVariables false

theorem walk {W : World} {a0 : Option Addr} {len0 cap0 : Nat} {l : List UInt8} (h : Bs W.heap.size W a0 len0 cap0 l) (hm : cap0 ≤ maxLen) (T : TypeId) (x : Value) (hG : W.cell? ⟨0, 0, none⟩ = some (.iface T x)) :
    Calls Tryd.prog 4 #[.slice a0 len0 cap0] W fun e w' => e = .returned (.bool true) ∧ Below W.heap.size W w' := by
  by_cases hl : len0 ≤ 1048576
  · refine (twice_any h hl T x hG).mono ?_
    rintro e w' ⟨rfl, hu⟩
    exact ⟨rfl, hu.below (Nat.le_refl _) (by simp)⟩
  · have hm' : len0 ≤ 9223372036854775807 := by have := h.hcap; unfold maxLen at hm; omega
    refine (twice_big (by omega) hm').mono ?_
    rintro e w' ⟨rfl, rfl⟩
    exact ⟨rfl, Below.refl _ _⟩

set_option maxRecDepth 100000 in
theorem lifted (os : Os) (started : os.Started) (H : Type) (enc : TypeId × Value → H) :
    ReturnsInHanded {} Tryd.checked os 4 .any (fun w args => (Rows.fnDecoderNameTwiceKeepsItsErrorSpec.pre enc Tryd.prog Tryd.f4 [] false w args ∧ laidMetH Tryd.prog Rows.fnDecoderNameTwiceKeepsItsErrorRow.laid w) ∧ sizedMet enc Tryd.prog Tryd.f4 (OpenSpec.ofChange Rows.fnDecoderNameTwiceKeepsItsErrorSpec) false w args)
      (Rows.fnDecoderNameTwiceKeepsItsErrorSpec.post enc Tryd.prog Tryd.f4 false true false false) := by
  refine returnsInHanded_of_change_and (C := Tryd.checked) (X := fun w _ => laidMetH Tryd.prog Rows.fnDecoderNameTwiceKeepsItsErrorRow.laid w) (fun _ _ _ hh h => h.of_heap hh) own started (by kernel_rfl) Tryd.func4
    (ChangeSpec.witness_shaped (enc := enc) (C := Tryd.checked) (os := os) (X := fun w _ => laidMetH Tryd.prog Rows.fnDecoderNameTwiceKeepsItsErrorRow.laid w) false (World.doorLaid Tryd.prog 400 os) #[.slice none 0 0] 8 rfl (World.shaped_of_RefB (by kernel_rfl) (by kernel_rfl)) (by kernel_rfl) (by kernel_rfl) (by kernel_rfl) (door_met os _)) ?_
  intro W base args ds gs before hval0 hW _ _ hL _
  have hval : ∀ (j : Nat) t v, Tryd.f4.params[j]? = some t → args[j]? = some v → Value.okWide Tryd.prog W .any base t v := hval0
  have hW' := hW
  obtain ⟨p, q, hA0, hV0, rfl, hfz, hnd⟩ := hW
  have hA : DataW.TrodAll enc Tryd.prog W 0 (fun _ => true) true Tryd.f4.params.toList args.toList ds p := hA0
  have hV : DataW.TrodVars enc Tryd.prog W (fun _ => true) Rows.fnDecoderNameTwiceKeepsItsErrorRow.named gs q := hV0
  rw [Tryd.params4] at hA hval
  obtain ⟨v0, d0, rfl, rfl, h0⟩ := trodAll_one hA
  obtain ⟨a, hv, hg⟩ := sentinel_of_laid hL
  obtain ⟨rfl, rfl⟩ := hV.unique (vars_read enc hv trivial _)
  obtain ⟨a0, len0, cap0, rfl⟩ := okWide_slice Tryd.underlying22 (hval 0 22 v0 rfl rfl)
  have k0 := h0
  have lt0 : ∀ x ∈ p, x.block < W.heap.size := by obtain ⟨m, hm⟩ := k0; exact DataW.trod_lt m _ _ _ hm
  obtain ⟨l0, b0, m0⟩ : ∃ l, Bs W.heap.size W a0 len0 cap0 l ∧ cap0 ≤ maxLen := by obtain ⟨fuel, hf⟩ := h0; exact bs_of hf
  clear hA0 hV0 hval0
  refine (walk b0 m0 _ _ hg).mono fun e W' ⟨he, bel⟩ => ?_
  subst he
  have hv' := var?_below bel gShort (World.block_lt_of_cell? W _ hg) hv
  exact ⟨_, rfl, _, _, _, [], _, [.cell 0 0], hW', trodAll_mk1 (shut_bool Tryd.underlying4 _), trodAll_mk1 (Below.trod laidOut (by kernel_rfl) (of_decide_eq_true (by kernel_rfl)) k0 bel lt0), vars_read enc hv' trivial _, bel.frame _, fun h => by cases h⟩

theorem over : Rows.FnDecoderNameTwiceKeepsItsErrorSaid :=
  OpenClaim.holds_of_wide 4 Tryd.f4 rfl rfl rfl rfl rfl rfl rfl ⟨rfl, rfl, rfl, rfl, rfl⟩ rfl rfl rfl rfl rfl (by kernel_rfl) Tryd.func4 (by kernel_rfl)
    (of_decide_eq_true (by kernel_rfl)) (by unfold Func.isWrapper; first | (rw [if_pos (by decide +kernel)]; kernel_rfl) | (rw [if_neg (by decide +kernel)]; exact ⟨rfl, rfl⟩))
    (fun os started H enc _ => lifted os started H enc)

theorem proved : Rows.FnDecoderNameTwiceKeepsItsErrorCardSaid :=
  Claim7.holds_tied_plain_at .later [] [.sentinel] true (true, "fd4d56cb044591f6f6438a1005c5cd6ce1e0cdae5ab1b814592e64d01a2aad4a") false
    over (fun _ h => by cases h) (by kernel_rfl) (fun _ h => by cases h) fnDecoderNameTwiceKeepsItsError_row_tie rfl ⟨rfl, rfl⟩ (by kernel_rfl) rfl
    (fun f fn hf hfn => by
      obtain rfl : f = 4 := Option.some.inj ((show Tryd.prog.funcNamed Rows.fnDecoderNameTwiceKeepsItsErrorRow.func = some 4 by kernel_rfl).symm.trans hf) |>.symm
      obtain rfl : fn = Tryd.f4 := (Option.some.inj (Tryd.func4.symm.trans hfn)).symm
      exact ⟨by kernel_rfl, fun j t ht => by
        rw [Tryd.params4] at ht
        have hm : t ∈ [22] := by simpa using Array.mem_of_getElem? ht
        have hall : ([22].all fun u => !Tryd.prog.wantsStandIn u) = true := by kernel_rfl
        exact (show Tryd.prog.wantsStandIn t = false by simpa using List.all_eq_true.1 hall t hm)⟩)
    (by kernel_rfl)
#print axioms proved
end Go.Proofs.Qxb6616660aDoor.fnTwice
