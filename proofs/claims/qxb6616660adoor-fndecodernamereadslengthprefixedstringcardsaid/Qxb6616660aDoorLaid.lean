import Derived.Test.Qxb6616660aDoorMem
import Derived.Test.Qxb6616660aDoorRows
import Derived.WalkKit
import Derived.ProofKit
import Derived.OpenShut
import Derived.ShutString
import Derived.ChangeOld
import Derived.ChangeVars
import Derived.Below
import Derived.JoinedOf
import Derived.RowKitTokens
import Derived.LaidLaws
import Derived.LaidMore
import Derived.Stop.ErrReads
import Derived.Stop.Joined
import Derived.WalkSmall
namespace Go.Proofs.Qxb6616660aDoor
open Go.ChangeShapes Go.WideShapes Go.ChangeAt Go.RowKit Go.Qm

theorem own : ownKnob Tryd.prog.godebug = none := by kernel_rfl
theorem laidOut : laidOutB Tryd.prog = true := by kernel_rfl
theorem gShort : Tryd.prog.globalNamed Rows.fnDecoderNameTwiceKeepsItsErrorRow.named.head! = some 0 := by kernel_rfl
theorem tShort : (Tryd.prog.globals[0]?).map (·.type) = some 26 := by kernel_rfl
theorem cells47 : Tryd.prog.cellsOf 47 = 1 := by kernel_rfl
theorem cells9 : Tryd.prog.cellsOf 9 = 1 := by kernel_rfl
/-- The dynamic type's name in the listed datum. -/
def nmOf {H : Type} : DataW H → String
  | .iface n _ => n
  | _ => ""
def errName : String := nmOf (Rows.laid_example_com_quantrel_quantrel_errShort (H := Unit))
theorem star : String.ofList [Char.ofNat 42] ++ "errors.errorString" = errName := by decide
theorem row45 (u : TypeId) (h : Tryd.prog.typeName? 3 u = some errName) : u = 45 :=
  typeName_ptr_named (nm := "errors.errorString") (tp := 45) (by kernel_rfl) (by kernel_rfl) (by decide) u (by rw [← star] at h; exact h)

theorem sentinel_of_laid {W : World} (h : laidMetH Tryd.prog Rows.fnDecoderNameTwiceKeepsItsErrorRow.laid W) :
    ∃ a : Addr, W.var? Tryd.prog (Rows.fnDecoderNameTwiceKeepsItsErrorRow.named.head!) = some #[.iface 45 (.pointer (some a))] ∧ W.cell? ⟨0, 0, none⟩ = some (.iface 45 (.pointer (some a))) := by
  rw [MakeChecks.laidMetH_plain _ _ _ (by kernel_rfl)] at h
  obtain ⟨ps, ⟨g0, t0, cs0, f0, p0, q0, hg0, ht0, hv0, hd0, hq, e0⟩, hnd, hrows⟩ := h
  obtain rfl := Option.some.inj (gShort.symm.trans hg0)
  obtain rfl := Option.some.inj (tShort.symm.trans ht0)
  have hq' : q0 = [] := hq
  subst hq'
  subst e0
  obtain ⟨l0⟩ := cs0
  have ok0 : ∀ u v, l0 = [.iface u v] → Value.okWide Tryd.prog W .any 0 u v := fun u v e => by
    subst e
    exact (hrows 0 0 (by simp [MemPlace.row])).2 u v (by simpa using World.var?_cell hg0 hv0 0)
  obtain ⟨a0, s0, rfl, hc0, hs0, hz0, rfl⟩ := errorString_of_trod Tryd.underlying26 row45 Tryd.underlying45 Tryd.underlying47 rfl rfl Tryd.underlying9 cells47 cells9 hd0 ok0
  exact ⟨a0, hv0, by simpa using World.var?_cell hg0 hv0 0⟩

theorem door_met (os : Os) (args : Array Value) : laidMetH Tryd.prog Rows.fnDecoderNameTwiceKeepsItsErrorRow.laid ((World.doorLaid Tryd.prog 400 os).forCall (fun _ _ => 0) ⟨#[], args, []⟩).memory :=
  laidMetH_of_parts3 (fuel := 8) (laidMet_of_run' 8 (by kernel_rfl) (by kernel_rfl)) (by kernel_rfl) (by kernel_rfl)

theorem vars_read {H : Type} (enc : TypeId × Value → H) {W : World} {x0 : Value} (h0 : W.var? Tryd.prog (Rows.fnDecoderNameTwiceKeepsItsErrorRow.named.head!) = some #[x0]) (i0 : IsIface x0) (sp : Nat → Bool) :
    DataW.TrodVars enc Tryd.prog W sp Rows.fnDecoderNameTwiceKeepsItsErrorRow.named [tok enc x0] [.cell 0 0] :=
  ⟨0, 26, #[x0], 1, [], [], gShort, tShort, h0, trod_held Tryd.underlying26 i0 0, rfl, rfl⟩

/-- From a reading of a []byte argument to what the walks are told. -/
theorem bs_of {H : Type} {enc : TypeId × Value → H} {W : World} {fuel : Nat} {a : Option Addr} {len cap : Nat} {d : DataW H} {p : List MemPlace}
    (hf : DataW.trod enc Tryd.prog W 0 (fun _ => true) true fuel 22 (Value.slice a len cap).cells.toList = some (d, p)) : ∃ l, Bs W.heap.size W a len cap l ∧ cap ≤ maxLen := by
  rcases open_ints Tryd.underlying22 Tryd.underlying5 (by kernel_rfl) hf with ⟨hcs, _⟩ | ⟨x, l, c, zs, hcs, _, hl, hm, hz, _, hcell, hwz⟩
  · simp [Value.cells] at hcs
    obtain ⟨rfl, rfl, rfl⟩ := hcs
    exact ⟨[], Bs.empty (fun _ => rfl), Nat.zero_le _⟩
  · simp [Value.cells] at hcs
    obtain ⟨rfl, rfl, rfl⟩ := hcs
    have hz' : zs.length = cap := by simpa using hz
    refine ⟨(zs.take len).map fun n => UInt8.ofNat n.toNat, ⟨?_, hl, (fun h => by cases h), fun hp => ?_⟩, hm⟩
    · simp; omega
    · have h0 := hcell 0 (by omega)
      obtain ⟨b, off, spot⟩ := x
      have hspot : spot = none := by simpa [Addr.add] using World.cell?_spot h0
      subst hspot
      have hlt : b < W.heap.size := by simpa [Addr.add] using World.block_lt_of_cell? W _ h0
      refine ⟨b, off, rfl, hlt, fun i hi => ?_⟩
      have hc := hcell i (by omega)
      rw [Addr.add_lit] at hc
      rw [hc]
      have hiz : i < zs.length := by omega
      have hw := hwz (zs[i]) (List.getElem_mem hiz)
      have hb : 0 ≤ zs[i] ∧ zs[i] ≤ 255 := by simpa [Lit.wf, IntKind.signed, IntKind.bits] using bounds_u8 hw
      have e : ((zs.take len).map fun n => UInt8.ofNat n.toNat).getD i 0 = UInt8.ofNat (zs[i]).toNat := by
        simp [List.getD, hi, hiz]
      rw [e]
      have e2 : zs.getD i 0 = zs[i] := by simp [List.getD, hiz]
      rw [e2]
      congr 2
      simp [UInt8.toNat_ofNat']
      omega
end Go.Proofs.Qxb6616660aDoor
