import Derived.Test.Qxb6616660aDoorLaid
import Derived.Test.Qxb6616660aDoorLawReads
import Derived.Test.Qxb6616660aDoorTie
import Derived.Test.Qxb6616660aDoorCards
import Derived.SevenTiedAt
namespace Go.Proofs.Qxb6616660aDoor.fnReads
open Go.ChangeShapes Go.WideShapes Go.ChangeAt Go.RowKit Go.Qm
set_option linter.unusedVariables false

theorem walk {W : World} {a0 a1 : Option Addr} {len0 cap0 len1 cap1 : Nat} {l l' : List UInt8} {k : Int} (h : Bs W.heap.size W a0 len0 cap0 l) (hm : cap0 ≤ maxLen) (h' : Bs W.heap.size W a1 len1 cap1 l') (hm' : cap1 ≤ maxLen) (T : TypeId) (x : Value) (hG : W.cell? ⟨0, 0, none⟩ = some (.iface T x)) :
    Calls Tryd.prog 3 #[.slice a0 len0 cap0, .slice a1 len1 cap1, .int .i64 k] W fun e w' => e = .returned (.bool true) ∧ Below W.heap.size W w' := by
  have b0 : len0 ≤ 9223372036854775807 := by have := h.hcap; unfold maxLen at hm; omega
  have b1 : len1 ≤ 9223372036854775807 := by have := h'.hcap; unfold maxLen at hm'; omega
  by_cases hl : 524288 < len0
  · refine (reads_big1 hl b0 b1).mono ?_
    rintro e w' ⟨rfl, rfl⟩
    exact ⟨rfl, Below.refl _ _⟩
  by_cases hl' : 524288 < len1
  · refine (reads_big2 hl' b0 b1).mono ?_
    rintro e w' ⟨rfl, rfl⟩
    exact ⟨rfl, Below.refl _ _⟩
  by_cases hk : k < 0 ∨ len0 < k
  · refine (reads_out (by omega) (by omega) hk).mono ?_
    rintro e w' ⟨rfl, rfl⟩
    exact ⟨rfl, Below.refl _ _⟩
  obtain ⟨n, rfl⟩ := Int.eq_ofNat_of_zero_le (show 0 ≤ k by omega)
  refine (reads_main h h' (by omega) (by omega) (by omega) T x hG).mono ?_
  rintro e w' ⟨rfl, hu⟩
  exact ⟨rfl, hu.below (Nat.le_refl _) (by simp)⟩

set_option maxRecDepth 100000 in
theorem lifted (os : Os) (started : os.Started) (H : Type) (enc : TypeId × Value → H) :
    ReturnsInHanded {} Tryd.checked os 3 .any (fun w args => (Rows.fnDecoderNameReadsLengthPrefixedStringSpec.pre enc Tryd.prog Tryd.f3 [] false w args ∧ laidMetH Tryd.prog Rows.fnDecoderNameReadsLengthPrefixedStringRow.laid w) ∧ sizedMet enc Tryd.prog Tryd.f3 (OpenSpec.ofChange Rows.fnDecoderNameReadsLengthPrefixedStringSpec) false w args)
      (Rows.fnDecoderNameReadsLengthPrefixedStringSpec.post enc Tryd.prog Tryd.f3 false true false false) := by
  refine returnsInHanded_of_change_and (C := Tryd.checked) (X := fun w _ => laidMetH Tryd.prog Rows.fnDecoderNameReadsLengthPrefixedStringRow.laid w) (fun _ _ _ hh h => h.of_heap hh) own started (by kernel_rfl) Tryd.func3
    (ChangeSpec.witness_shaped (enc := enc) (C := Tryd.checked) (os := os) (X := fun w _ => laidMetH Tryd.prog Rows.fnDecoderNameReadsLengthPrefixedStringRow.laid w) false (World.doorLaid Tryd.prog 400 os) #[.slice none 0 0, .slice none 0 0, .int .i64 0] 8 rfl (World.shaped_of_RefB (by kernel_rfl) (by kernel_rfl)) (by kernel_rfl) (by kernel_rfl) (by kernel_rfl) (door_met os _)) ?_
  intro W base args ds gs before hval0 hW _ _ hL _
  have hval : ∀ (j : Nat) t v, Tryd.f3.params[j]? = some t → args[j]? = some v → Value.okWide Tryd.prog W .any base t v := hval0
  have hW' := hW
  obtain ⟨p, q, hA0, hV0, rfl, hfz, hnd⟩ := hW
  have hA : DataW.TrodAll enc Tryd.prog W 0 (fun _ => true) true Tryd.f3.params.toList args.toList ds p := hA0
  have hV : DataW.TrodVars enc Tryd.prog W (fun _ => true) Rows.fnDecoderNameReadsLengthPrefixedStringRow.named gs q := hV0
  rw [Tryd.params3] at hA hval
  obtain ⟨v0, v1, v2, d0, d1, d2, p0, p1, p2, rfl, rfl, rfl, h0, h1, h2⟩ := trodAll_three hA
  obtain ⟨a, hv, hg⟩ := sentinel_of_laid hL
  obtain ⟨rfl, rfl⟩ := hV.unique (vars_read enc hv trivial _)
  obtain ⟨a0, len0, cap0, rfl⟩ := okWide_slice Tryd.underlying22 (hval 0 22 v0 rfl rfl)
  obtain ⟨a1, len1, cap1, rfl⟩ := okWide_slice Tryd.underlying22 (hval 1 22 v1 rfl rfl)
  obtain ⟨k, rfl, rfl, rfl, wk⟩ := open_int Tryd.underlying3 (hval 2 3 v2 rfl rfl) h2
  have k0 := h0
  have k1 := h1
  have lt0 : ∀ x ∈ p0, x.block < W.heap.size := by obtain ⟨m, hm⟩ := k0; exact DataW.trod_lt m _ _ _ hm
  have lt1 : ∀ x ∈ p1, x.block < W.heap.size := by obtain ⟨m, hm⟩ := k1; exact DataW.trod_lt m _ _ _ hm
  obtain ⟨l0, b0, m0⟩ : ∃ l, Bs W.heap.size W a0 len0 cap0 l ∧ cap0 ≤ maxLen := by obtain ⟨fuel, hf⟩ := h0; exact bs_of hf
  obtain ⟨l1, b1, m1⟩ : ∃ l, Bs W.heap.size W a1 len1 cap1 l ∧ cap1 ≤ maxLen := by obtain ⟨fuel, hf⟩ := h1; exact bs_of hf
  clear hA0 hV0 hval0
  refine (walk b0 m0 b1 m1 _ _ hg).mono fun e W' ⟨he, bel⟩ => ?_
  subst he
  have hv' := var?_below bel gShort (World.block_lt_of_cell? W _ hg) hv
  exact ⟨_, rfl, _, _, _, [], _, [.cell 0 0], hW', trodAll_mk1 (shut_bool Tryd.underlying4 _), trodAll_mk3 (Below.trod laidOut (by kernel_rfl) (of_decide_eq_true (by kernel_rfl)) k0 bel lt0) (Below.trod laidOut (by kernel_rfl) (of_decide_eq_true (by kernel_rfl)) k1 bel lt1) (shut_int Tryd.underlying3 wk), vars_read enc hv' trivial _, bel.frame _, fun h => by cases h⟩

theorem over : Rows.FnDecoderNameReadsLengthPrefixedStringSaid :=
  OpenClaim.holds_of_wide 3 Tryd.f3 rfl rfl rfl rfl rfl rfl rfl ⟨rfl, rfl, rfl, rfl, rfl⟩ rfl rfl rfl rfl rfl (by kernel_rfl) Tryd.func3 (by kernel_rfl)
    (of_decide_eq_true (by kernel_rfl)) (by unfold Func.isWrapper; first | (rw [if_pos (by decide +kernel)]; kernel_rfl) | (rw [if_neg (by decide +kernel)]; exact ⟨rfl, rfl⟩))
    (fun os started H enc _ => lifted os started H enc)

theorem proved : Rows.FnDecoderNameReadsLengthPrefixedStringCardSaid :=
  Claim7.holds_tied_plain_at .later [] [.sentinel] true (true, "fd4d56cb044591f6f6438a1005c5cd6ce1e0cdae5ab1b814592e64d01a2aad4a") false
    over (fun _ h => by cases h) (by kernel_rfl) (fun _ h => by cases h) fnDecoderNameReadsLengthPrefixedString_row_tie rfl ⟨rfl, rfl⟩ (by kernel_rfl) rfl
    (fun f fn hf hfn => by
      obtain rfl : f = 3 := Option.some.inj ((show Tryd.prog.funcNamed Rows.fnDecoderNameReadsLengthPrefixedStringRow.func = some 3 by kernel_rfl).symm.trans hf) |>.symm
      obtain rfl : fn = Tryd.f3 := (Option.some.inj (Tryd.func3.symm.trans hfn)).symm
      exact ⟨by kernel_rfl, fun j t ht => by
        rw [Tryd.params3] at ht
        have hm : t ∈ [22, 22, 3] := by simpa using Array.mem_of_getElem? ht
        have hall : ([22, 22, 3].all fun u => !Tryd.prog.wantsStandIn u) = true := by kernel_rfl
        exact (show Tryd.prog.wantsStandIn t = false by simpa using List.all_eq_true.1 hall t hm)⟩)
    (by kernel_rfl)
#print axioms proved
end Go.Proofs.Qxb6616660aDoor.fnReads
