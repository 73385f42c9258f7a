import Derived.Test.Qxb6616660aScr
import Derived.Test.Qxb6616660aRows
import Derived.WalkKit
import Derived.ProofKit
import Derived.OpenShut
import Derived.ShutString
import Derived.ChangeOld
import Derived.Below
import Derived.Deep.SlicePairs
namespace Go.Proofs.Qxb6616660a
open Go.ChangeShapes Go.WideShapes Go.ChangeAt Go.RowKit Go.Qm

theorem own0 : ownKnob Try.prog.godebug = none := by kernel_rfl
theorem laidOut : laidOutB Try.prog = true := by kernel_rfl
theorem cells41 : Try.prog.cellsOf 41 = 2 := by kernel_rfl
theorem cells3 : Try.prog.cellsOf 3 = 1 := by kernel_rfl
theorem cells25 : Try.prog.cellsOf 25 = 1 := by kernel_rfl

/-- From a reading of a []ZAdd argument to what the walks are told. -/
theorem ad_of {H : Type} {enc : TypeId × Value → H} {W : World} {fuel : Nat} {a : Option Addr} {len cap : Nat} {d : DataW H} {p : List MemPlace}
    (hf : DataW.trod enc Try.prog W 0 (fun _ => true) true fuel 30 (Value.slice a len cap).cells.toList = some (d, p)) : ∃ aI aN, Ad W.heap.size W a len aI aN ∧ len ≤ maxLen := by
  rcases Deep.open_slice_pairs Try.underlying30 Try.underlying41 cells41 rfl rfl cells3 cells25 hf with ⟨hcs, _⟩ | ⟨x, l, c, m, n, V0, V1, D0, D1, P0, P1, hcs, _, hl, hm, hmm, _, hx⟩
  · simp [Value.cells] at hcs
    obtain ⟨rfl, rfl, rfl⟩ := hcs
    exact ⟨fun _ => 0, fun _ => 0, ⟨fun h => by omega, fun i h => by omega, fun i h => by omega⟩, Nat.zero_le _⟩
  · simp [Value.cells] at hcs
    obtain ⟨rfl, rfl, rfl⟩ := hcs
    have hmm' : m = cap := by simpa using hmm
    subst hmm'
    have each : ∀ i, i < m → ∃ q : Int × Nat, W.cell? (x.add (i * 2)) = some (.int .i64 q.1) ∧ W.cell? (x.add (i * 2 + 1)) = some (.int .u64 (q.2 : Int)) ∧ (-9223372036854775808 ≤ q.1 ∧ q.1 ≤ 9223372036854775807) ∧ q.2 < 18446744073709551616 := by
      intro i hi
      obtain ⟨e0, e1, r0, r1⟩ := hx i hi
      obtain ⟨z0, hz0, _, w0⟩ := DataW.trod_int Try.underlying3 r0
      obtain ⟨z1, hz1, _, w1⟩ := DataW.trod_int Try.underlying25 r1
      have b0 := bounds_i64 w0
      have b1 := bounds_u64 w1
      simp at hz0 hz1
      obtain ⟨n1, rfl⟩ := Int.eq_ofNat_of_zero_le (show 0 ≤ z1 by omega)
      exact ⟨(z0, n1), by rw [e0, hz0], by rw [e1, hz1], by omega, by show n1 < _; omega⟩
    obtain ⟨q, hq⟩ := Deep.choose_lt each
    refine ⟨fun i => (q i).1, fun i => (q i).2, ⟨fun hp => ?_, fun i hi => (hq i (by omega)).2.2.1, fun i hi => (hq i (by omega)).2.2.2⟩, by omega⟩
    have h0 := (hq 0 (by omega)).1
    obtain ⟨b, off, spot⟩ := x
    have hspot : spot = none := by simpa [Addr.add] using World.cell?_spot h0
    subst hspot
    have hlt : b < W.heap.size := by simpa [Addr.add] using World.block_lt_of_cell? W _ h0
    refine ⟨b, off, rfl, hlt, fun i hi => ?_⟩
    obtain ⟨k1, k2, _⟩ := hq i (by omega)
    rw [Addr.add_lit] at k1 k2
    exact ⟨k1, by rw [Nat.add_assoc]; exact k2⟩
end Go.Proofs.Qxb6616660a
