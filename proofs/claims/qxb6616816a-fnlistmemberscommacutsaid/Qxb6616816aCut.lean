import Derived.Test.Qxb6616816aRows
import Derived.Test.Qxb6616816aPlain
import Derived.WalkKit
import Derived.WalkSpells
import Derived.Deep.QuietTactic
import Derived.BigQuiet
import Derived.Below
namespace Go.Proofs.Qxb6616816a
open Go.RowKit Go.Qm

theorem ba_get (l : List UInt8) (k : Nat) (h : k < (ba l).size) : (ba l)[k] = l.getD k 0 := by
  have h' : k < l.length := by rw [ba_size] at h; exact h
  simp [ba, List.getD, h']
  rfl
theorem byte_yes {l : List UInt8} {k : Nat} {h : k < (ba l).size} {n : Nat} (hn : n < 256) (e : (((ba l)[k].toNat : Int) == (n : Int)) = true) : l.getD k 0 = UInt8.ofNat n := by
  rw [ba_get] at e
  simp only [beq_iff_eq] at e
  apply UInt8.toNat_inj.1
  rw [UInt8.toNat_ofNat']
  omega
theorem byte_no {l : List UInt8} {k : Nat} {h : k < (ba l).size} {n : Nat} (hn : n < 256) (e : (((ba l)[k].toNat : Int) == (n : Int)) = false) : l.getD k 0 ≠ UInt8.ofNat n := by
  rw [ba_get] at e
  intro he
  rw [he, UInt8.toNat_ofNat'] at e
  rw [Nat.mod_eq_of_lt (by omega)] at e
  simp at e
theorem ba_take (l : List UInt8) (i : Nat) : (ba l).extract 0 i = ba (l.take i) := by
  apply ByteArray.ext
  simp [ba, ByteArray.data_extract]
theorem ba_drop (l : List UInt8) (i : Nat) : (ba l).extract i l.length = ba (l.drop i) := by
  apply ByteArray.ext
  simp [ba, ByteArray.data_extract]
  rw [List.take_of_length_le (by simp)]

/-- What 'cutOutsideQuotes' hands back. -/
def cutV (l : List UInt8) : Value := .tuple (match cutP 0 l with | none => #[.string (ba l), .string (ba []), .bool false] | some i => #[.string (ba (l.take i)), .string (ba (l.drop (i + 1))), .bool true])
theorem cutV_none {l : List UInt8} (h : cutP 0 l = none) : cutV l = .tuple #[.string (ba l), .string (ba []), .bool false] := by unfold cutV; rw [h]
theorem cutV_some {l : List UInt8} {i : Nat} (h : cutP 0 l = some i) : cutV l = .tuple #[.string (ba (l.take i)), .string (ba (l.drop (i + 1))), .bool true] := by unfold cutV; rw [h]

set_option maxHeartbeats 1000000 in
theorem cut_any (l : List UInt8) (w : World) (hl : l.length ≤ 2097152) :
    Calls Try.prog 16 #[.string (ba l), .int .u8 44] w fun e w' => (∃ q, w' = w.drewN q) ∧
      e = .returned (cutV l) := by
  have hsz := ba_size l
  go_enter Try.func16, Try.ntmps16
  go_wp2
  go_loopw [7, 8] (fun q i wr => ∃ (k : Nat) (b : Bool), k ≤ l.length + 1 ∧ i = .int .i64 k ∧ q = .bool b ∧ CutAt l (if b then 1 else 0) k ∧ wr = w) (fun _ i _ => l.length + 1 - (intOf i).toNat)
  case atStart => exact ⟨0, false, Nat.zero_le _, rfl, rfl, CutAt.start l, rfl⟩
  case round =>
    obtain ⟨k, b, hk, rfl, rfl, hc, rfl⟩ := hrel
    by_cases hlt : k < l.length
    · have HC := hid hc
      have hks : k < (ba l).size := by rw [ba_size]; exact hlt
      clear hc
      go_wp2
      · have e1 := byte_yes (h := hks) (n := 92) (by omega) (by assumption)
        have eb : b = true := by assumption
        subst eb
        go_roundw
        case rel => exact ⟨k + 1 + 1, true, by omega, by go_num, rfl, HC.out.esc hlt e1, trivial⟩
        case measure => simp [intOf]; omega
      · have e1 := byte_no (h := hks) (n := 92) (by omega) (by assumption)
        have e2 := byte_yes (h := hks) (n := 34) (by omega) (by assumption)
        have eb : b = true := by assumption
        subst eb
        go_roundw
        case rel => exact ⟨k + 1, false, by omega, by go_num, rfl, HC.out.quote (by simp) hlt e2, trivial⟩
        case measure => simp [intOf]; omega
      · have e1 := byte_no (h := hks) (n := 92) (by omega) (by assumption)
        have e2 := byte_no (h := hks) (n := 34) (by omega) (by assumption)
        have eb : b = true := by assumption
        subst eb
        go_roundw
        case rel => exact ⟨k + 1, true, by omega, by go_num, rfl, HC.out.other (by simp) hlt (fun h => e1 h.2) e2 (by simp), trivial⟩
        case measure => simp [intOf]; omega
      · have e2 := byte_yes (h := hks) (n := 34) (by omega) (by assumption)
        have eb : ¬ b = true := by assumption
        have eb' : b = false := by simpa using eb
        subst eb'
        go_roundw
        case rel => exact ⟨k + 1, true, by omega, by go_num, rfl, HC.out.quote (by simp) hlt e2, trivial⟩
        case measure => simp [intOf]; omega
      · have e2 := byte_no (h := hks) (n := 34) (by omega) (by assumption)
        have e3 := byte_yes (h := hks) (n := 44) (by omega) (by assumption)
        have eb : ¬ b = true := by assumption
        have eb' : b = false := by simpa using eb
        subst eb'
        have hp := hid (HC.out.sep hlt e3)
        go_quiet (fail)
        go_wp2
        go_ret3
        rw [cutV_some hp.out, ← ba_take, ← ba_drop]
        exact ⟨⟨_, rfl⟩, rfl⟩
      · have e2 := byte_no (h := hks) (n := 34) (by omega) (by assumption)
        have e3 := byte_no (h := hks) (n := 44) (by omega) (by assumption)
        have eb : ¬ b = true := by assumption
        have eb' : b = false := by simpa using eb
        subst eb'
        go_roundw
        case rel => exact ⟨k + 1, false, by omega, by go_num, rfl, HC.out.other (by simp) hlt (by simp) e2 (fun h => e3 h.2), trivial⟩
        case measure => simp [intOf]; omega
    · have hp := hid (hc.done (by omega))
      go_wp2
      go_ret3
      rw [cutV_none hp.out]
      exact ⟨⟨0, rfl⟩, rfl⟩
end Go.Proofs.Qxb6616816a
