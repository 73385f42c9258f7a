import Derived.Test.Qxb6616816aPlain3
import Derived.Test.Qxb6616816aLine
namespace Go.Proofs.Qxb6616816a
open Go.RowKit Go.Qm

/-- Does c stand in l? -/
def has (c : UInt8) (l : List UInt8) : Bool := l.contains c
theorem has_no {c : UInt8} {l : List UInt8} (h : has c l = false) : c ∉ l := by
  intro hm
  simp [has, hm] at h
theorem no_has {c : UInt8} {l : List UInt8} (h : c ∉ l) : has c l = false := by
  simp [has, h]

theorem byte_iff {l : List UInt8} {k : Nat} (h : k < (ba l).size) (c : UInt8) : (((ba l)[k].toNat : Int) == (c.toNat : Int)) = decide (l.getD k 0 = c) := by
  rw [ba_get]
  by_cases e : l.getD k 0 = c
  · rw [e]; simp
  · have : (l.getD k 0).toNat ≠ c.toNat := fun h => e (UInt8.toNat_inj.1 h)
    rw [decide_eq_false e]
    simp only [beq_eq_false_iff_ne]
    omega

theorem take_succ_mem {c : UInt8} {l : List UInt8} {k : Nat} (hk : k < l.length) (h1 : c ∉ l.take k) (h2 : ¬ l.getD k 0 = c) : c ∉ l.take (k + 1) := by
  rw [List.take_succ_eq_append_getElem hk]
  intro h
  rcases List.mem_append.1 h with h | h
  · exact h1 h
  · simp at h; exact h2 (by simp [List.getD, hk, h])
theorem get_mem {c : UInt8} {l : List UInt8} {k : Nat} (hk : k < l.length) (h : l.getD k 0 = c) : c ∈ l := by
  rw [← h]; simp [List.getD, hk]
theorem cnt_take (c : UInt8) {l : List UInt8} {k : Nat} (hk : k < l.length) : cnt c (l.take (k + 1)) = cnt c (l.take k) + (if l.getD k 0 = c then 1 else 0) := by
  rw [List.take_succ_eq_append_getElem hk, cnt_app]
  simp [cnt, List.getD, hk]
theorem cnt_le (c : UInt8) (l : List UInt8) : cnt c l ≤ l.length := by
  induction l with
  | nil => exact Nat.le_refl _
  | cons x r ih => simp only [cnt, List.length_cons]; split <;> omega

set_option maxRecDepth 100000 in
set_option maxHeartbeats 1000000 in
theorem has_any (l : List UInt8) (c : UInt8) (n : Int) (hn : n = (c.toNat : Int)) (w : World) (hl : l.length ≤ 2097152) :
    Calls Try.prog 10 #[.string (ba l), .int .u8 n] w fun e w' => e = .returned (.bool (has c l)) ∧ w' = w := by
  have hsz := ba_size l
  have HN := hid hn
  clear hn
  go_enter Try.func10, Try.ntmps10
  go_wp2
  go_loopw [5] (fun i wr => ∃ k : Nat, k ≤ l.length ∧ i = .int .i64 k ∧ c ∉ l.take k ∧ wr = w) (fun i _ => l.length - (intOf i).toNat)
  case atStart => exact ⟨0, Nat.zero_le _, rfl, by simp, rfl⟩
  case round =>
    obtain ⟨k, hk, rfl, hno, hwr⟩ := hrel
    subst wr
    have HNO := hid hno
    clear hno
    by_cases hlt : k < l.length
    · have hks : k < (ba l).size := by omega
      have hb := byte_iff hks c
      rw [← HN.out] at hb
      by_cases e : l.getD k 0 = c
      · rw [decide_eq_true e] at hb
        have hh : has c l = true := by simp [has, get_mem hlt e]
        have HH := hid hh
        clear e hh
        go_wp2
        go_ret
        rw [HH.out]
        exact ⟨rfl, rfl⟩
      · rw [decide_eq_false e] at hb
        have HE := hid e
        clear e
        go_wp2
        go_roundw
        case rel => exact ⟨k + 1, by omega, by go_num, take_succ_mem hlt HNO.out HE.out, trivial⟩
        case measure => simp [intOf]; omega
    · have hh : has c l = false := no_has (by have := HNO.out; rwa [List.take_of_length_le (by omega)] at this)
      have HH := hid hh
      clear hh
      go_wp2
      go_ret
      rw [HH.out]
      exact ⟨rfl, rfl⟩

set_option maxRecDepth 100000 in
set_option maxHeartbeats 1000000 in
theorem count_any (l : List UInt8) (w : World) (hl : l.length ≤ 2097152) (N : Nat) (hN : cnt 44 l = N) :
    Calls Try.prog 11 #[.string (ba l), .int .u8 44] w fun e w' => e = .returned (.int .i64 (N : Int)) ∧ w' = w := by
  have hsz := ba_size l
  have HN := hid hN
  clear hN
  go_enter Try.func11, Try.ntmps11
  go_wp2
  go_loopw [5, 6] (fun n i wr => ∃ k : Nat, k ≤ l.length ∧ i = .int .i64 k ∧ n = .int .i64 (cnt 44 (l.take k) : Int) ∧ wr = w) (fun _ i _ => l.length - (intOf i).toNat)
  case atStart => exact ⟨0, Nat.zero_le _, rfl, rfl, rfl⟩
  case round =>
    obtain ⟨k, hk, rfl, rfl, hwr⟩ := hrel
    subst wr
    by_cases hlt : k < l.length
    · have hks : k < (ba l).size := by omega
      have hb := byte_iff hks 44
      have hc := cnt_take 44 hlt
      have hle := cnt_le 44 (l.take k)
      have hle2 : (l.take k).length = k := by simp; omega
      rw [hle2] at hle
      obtain ⟨S, hS⟩ : ∃ S, cnt 44 (l.take k) = S := ⟨_, rfl⟩
      rw [hS] at hc hle ⊢
      have h44 : ((44 : UInt8).toNat : Int) = 44 := rfl
      rw [h44] at hb
      by_cases e : l.getD k 0 = 44
      · rw [decide_eq_true e] at hb
        rw [if_pos e] at hc
        have HC := hid hc
        clear e hc hS hle2
        go_wp2
        go_roundw
        case rel => exact ⟨k + 1, by omega, by go_num, by rw [HC.out]; go_num, trivial⟩
        case measure => simp [intOf]; omega
      · rw [decide_eq_false e] at hb
        rw [if_neg e] at hc
        have HC := hid hc
        clear e hc hS hle2
        go_wp2
        go_roundw
        case rel => exact ⟨k + 1, by omega, by go_num, by rw [HC.out]; go_num, trivial⟩
        case measure => simp [intOf]; omega
    · obtain rfl : k = l.length := by omega
      rw [List.take_length, HN.out]
      go_wp2
      go_ret
      exact ⟨rfl, rfl⟩
end Go.Proofs.Qxb6616816a
