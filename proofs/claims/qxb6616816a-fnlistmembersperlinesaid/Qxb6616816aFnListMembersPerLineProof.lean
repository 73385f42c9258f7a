import Derived.Test.Qxb6616816aLine
import Derived.Test.Qxb6616816aRows
import Derived.WalkKit
import Derived.ProofKit
import Derived.OpenShut
import Derived.ShutString
import Derived.ChangeOld
import Derived.Below
import Derived.Deep.Strs
namespace Go.Proofs.Qxb6616816a.fnListMembersPerLine
open Go.ChangeShapes Go.WideShapes Go.ChangeAt Go.RowKit Go.Qm
set_option linter.unusedVariables false

theorem own : ownKnob Try.prog.godebug = none := by kernel_rfl
theorem laidOut : laidOutB Try.prog = true := by kernel_rfl
theorem cells9 : Try.prog.cellsOf 9 = 1 := by kernel_rfl

/-- From a reading of a []string argument to what the walks are told. -/
theorem ss_of {H : Type} {enc : TypeId × Value → H} {W : World} {fuel : Nat} {a : Option Addr} {len cap : Nat} {d : DataW H} {p : List MemPlace}
    (hf : DataW.trod enc Try.prog W 0 (fun _ => true) true fuel 22 (Value.slice a len cap).cells.toList = some (d, p)) : ∃ L, Ss W.heap.size W a len L ∧ len ≤ maxLen ∧ (a = none → len = 0) := by
  rcases Deep.open_strs Try.underlying22 Try.underlying9 cells9 hf with ⟨hcs, _⟩ | ⟨x, l, c, m, Sx, hcs, _, hl, hm, hmm, _, hx⟩
  · simp [Value.cells] at hcs
    obtain ⟨rfl, rfl, rfl⟩ := hcs
    exact ⟨[], ⟨rfl, fun h => by omega⟩, Nat.zero_le _, fun _ => rfl⟩
  · simp [Value.cells] at hcs
    obtain ⟨rfl, rfl, rfl⟩ := hcs
    have hmm' : m = cap := by simpa using hmm
    subst hmm'
    refine ⟨(List.range len).map fun i => (Sx i).data.toList, ⟨by simp, fun hp => ?_⟩, by omega, fun h => by cases h⟩
    have h0 := (hx 0 (by omega)).1
    obtain ⟨b, off, spot⟩ := x
    have hspot : spot = none := by simpa [Addr.add] using World.cell?_spot h0
    subst hspot
    have hlt : b < W.heap.size := by simpa [Addr.add] using World.block_lt_of_cell? W _ h0
    refine ⟨b, off, rfl, hlt, fun i hi => ?_⟩
    have hc := (hx i (by omega)).1
    rw [Addr.add_lit] at hc
    rw [hc]
    have e : ((List.range len).map fun i => (Sx i).data.toList).getD i [] = (Sx i).data.toList := by simp [List.getD, hi]
    rw [e, ba_of]

theorem walk {W : World} {ao : Option Addr} {len cap : Nat} {L : List (List UInt8)} (h : Ss W.heap.size W ao len L) (hm : len ≤ maxLen) (hn : ao = none → len = 0) :
    Calls Try.prog 3 #[.slice ao len cap] W fun e w' => e = .returned (.bool true) ∧ Below W.heap.size W w' := by
  have key : Calls Try.prog 3 #[.slice ao len cap] W fun e w' => e = .returned (.bool true) ∧ Upd [] W w' := by
    by_cases c1 : bt L len len ≤ 1048576
    · by_cases c2 : len ≤ 65536
      · by_cases c3 : ad L len ≤ 1048576
        · cases ao with
          | none => obtain rfl := hn rfl; exact line_nil cap
          | some a => exact line_main h c2 c3
        · exact line_heavy h c1 c2 c3
      · exact line_long h c1 (by omega)
    · exact line_bad h c1 (by unfold maxLen at hm; omega)
  refine key.mono ?_
  rintro e w' ⟨rfl, hu⟩
  exact ⟨rfl, hu.below (Nat.le_refl _) (by simp)⟩

set_option maxRecDepth 100000 in
theorem lifted (os : Os) (started : os.Started) (H : Type) (enc : TypeId × Value → H) :
    ReturnsInHanded {} Try.checked os 3 .any (Rows.fnListMembersPerLineSpec.pre6 enc Try.prog Try.f3 Rows.fnListMembersPerLineRow.domain false) (Rows.fnListMembersPerLineSpec.post enc Try.prog Try.f3 false true false false) := by
  refine returnsInHanded_of_change (C := Try.checked) own started (by kernel_rfl) Try.func3
    (ChangeSpec.witness6 (enc := enc) (C := Try.checked) false ⟨#[], #[.slice none 0 0], []⟩ 8 (by kernel_rfl) (by kernel_rfl) (by kernel_rfl) (by kernel_rfl)) ?_
  intro W base args ds gs before hval0 hW hcnd _
  have hval : ∀ (j : Nat) t v, Try.f3.params[j]? = some t → args[j]? = some v → Value.okWide Try.prog W .any base t v := hval0
  have hW' := hW
  obtain ⟨p, q, hA0, hV, rfl, hfz, hnd⟩ := hW
  have hA : DataW.TrodAll enc Try.prog W 0 (fun _ => true) true Try.f3.params.toList args.toList ds p := hA0
  rw [Try.params3] at hA hval
  obtain ⟨v0, d0, rfl, rfl, h0⟩ := trodAll_one hA
  obtain ⟨rfl, rfl⟩ := trodVars_none hV
  obtain ⟨a0, len0, cap0, rfl⟩ := okWide_slice Try.underlying22 (hval 0 22 v0 rfl rfl)
  have k0 := h0
  have lt0 : ∀ x ∈ p, x.block < W.heap.size := by obtain ⟨m, hm⟩ := k0; exact DataW.trod_lt m _ _ _ hm
  obtain ⟨L, b0, m0, n0⟩ : ∃ L, Ss W.heap.size W a0 len0 L ∧ len0 ≤ maxLen ∧ (a0 = none → len0 = 0) := by obtain ⟨fuel, hf⟩ := h0; exact ss_of hf
  clear hA0 hval0
  refine (walk b0 m0 n0).mono fun e W' ⟨he, bel⟩ => ?_
  subst he
  exact ⟨_, rfl, _, _, _, [], _, [], hW', trodAll_mk1 (shut_bool Try.underlying4 _), trodAll_mk1 (Below.trod laidOut (by kernel_rfl) (of_decide_eq_true (by kernel_rfl)) k0 bel lt0), rfl, bel.frame _, fun h => by cases h⟩

theorem over : Rows.fnListMembersPerLineRow.holds Try.pinned (OpenSpec.ofChange Rows.fnListMembersPerLineSpec) :=
  OpenClaim.holds_of_wide 3 Try.f3 rfl rfl rfl rfl rfl rfl rfl ⟨rfl, rfl, rfl, rfl, rfl⟩ rfl rfl rfl rfl rfl (by kernel_rfl) Try.func3 (by kernel_rfl)
    (of_decide_eq_true (by kernel_rfl)) (by unfold Func.isWrapper; first | (rw [if_pos (by decide +kernel)]; kernel_rfl) | (rw [if_neg (by decide +kernel)]; exact ⟨rfl, rfl⟩))
    (fun os started H enc _ => lifted os started H enc)

theorem proved : Rows.FnListMembersPerLineSaid := over
#print axioms proved
end Go.Proofs.Qxb6616816a.fnListMembersPerLine
