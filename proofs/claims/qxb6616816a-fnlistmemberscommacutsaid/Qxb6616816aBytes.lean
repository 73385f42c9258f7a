import Derived.Test.Qxb6616816aPlain2
namespace Go.Proofs.Qxb6616816a
open Go.RowKit Go.Qm

/-- The lengths of the first k lines, behind the number of lines. -/
def bt (L : List (List UInt8)) (len : Nat) : Nat → Nat
  | 0 => len
  | k + 1 => bt L len k + (L.getD k []).length
def ad (L : List (List UInt8)) : Nat → Nat
  | 0 => 0
  | k + 1 => ad L k + ((L.getD k []).length + 16)
theorem bt_mono (L : List (List UInt8)) (len : Nat) {j k : Nat} (h : j ≤ k) : bt L len j ≤ bt L len k := by
  induction k with
  | zero => obtain rfl : j = 0 := by omega
            exact Nat.le_refl _
  | succ k ih =>
    by_cases e : j = k + 1
    · subst e; exact Nat.le_refl _
    · have := ih (by omega); simp only [bt]; omega
theorem ad_mono (L : List (List UInt8)) {j k : Nat} (h : j ≤ k) : ad L j ≤ ad L k := by
  induction k with
  | zero => obtain rfl : j = 0 := by omega
            exact Nat.le_refl _
  | succ k ih =>
    by_cases e : j = k + 1
    · subst e; exact Nat.le_refl _
    · have := ih (by omega); simp only [ad]; omega
theorem bt_ad (L : List (List UInt8)) (len : Nat) (k : Nat) : bt L len k + 16 * k = len + ad L k := by
  induction k with
  | zero => rfl
  | succ k ih => simp only [bt, ad]; omega
theorem bt_part (L : List (List UInt8)) (len : Nat) {j k : Nat} (h : j < k) : (L.getD j []).length ≤ bt L len k := by
  have := bt_mono L len (show j + 1 ≤ k by omega)
  simp only [bt] at this; omega

set_option maxRecDepth 100000 in
set_option maxHeartbeats 1000000 in
theorem bytes5_ok {D : Nat} {w : World} {ao : Option Addr} {len cap : Nat} {L : List (List UInt8)} (h : Ss D w ao len L) (hb : bt L len len ≤ 1048576) :
    Calls Try.prog 5 #[.slice ao len cap] w fun e w' => e = .returned (.bool true) ∧ w' = w := by
  have HS := hid h.spot
  have HB := hid hb
  have hl : len ≤ 1048576 := by have := bt_mono L len (Nat.zero_le len); simp only [bt] at this; omega
  clear h hb
  go_enter Try.func5, Try.ntmps5
  go_wp2
  go_loopw [3, 4] (fun n i wr => ∃ k : Nat, k ≤ len ∧ i = .int .i64 k ∧ n = .int .i64 (bt L len k : Int) ∧ wr = w) (fun _ i _ => len - (intOf i).toNat)
  case atStart => exact ⟨0, Nat.zero_le _, rfl, rfl, rfl⟩
  case round =>
    obtain ⟨k, hk, rfl, rfl, hwr⟩ := hrel
    subst wr
    by_cases hlt : k < len
    · obtain ⟨b, off, ha, hb, hc⟩ := HS.out (by omega)
      cases ha
      have c1 := hc k hlt
      have hs1 : bt L len (k + 1) = bt L len k + (L.getD k []).length := rfl
      have hs2 := bt_mono L len (show k + 1 ≤ len by omega)
      have hs3 := HB.out
      obtain ⟨part, hp⟩ : ∃ part, L.getD k [] = part := ⟨_, rfl⟩
      rw [hp] at c1 hs1
      obtain ⟨S, hS⟩ : ∃ S, bt L len k = S := ⟨_, rfl⟩
      rw [hS] at hs1 ⊢
      have hbz := ba_size part
      have hbd : S + part.length ≤ 1048576 := by omega
      have hbd2 : part.length ≤ 1048576 := by omega
      have HS1 := hid hs1
      clear hs1 hs2 hs3 hS hp hc
      go_wp2
      go_roundw
      case rel => exact ⟨k + 1, hlt, by go_num, by rw [HS1.out]; go_num, trivial⟩
      case measure => simp [intOf]; omega
    · go_wp2
      go_ret
      exact ⟨rfl, rfl⟩

set_option maxRecDepth 100000 in
set_option maxHeartbeats 1000000 in
theorem bytes5_bad {D : Nat} {w : World} {ao : Option Addr} {len cap : Nat} {L : List (List UInt8)} (h : Ss D w ao len L) (hb : ¬ bt L len len ≤ 1048576) (hm : len ≤ 9223372036854775807) :
    Calls Try.prog 5 #[.slice ao len cap] w fun e w' => e = .returned (.bool false) ∧ w' = w := by
  have HS := hid h.spot
  have HB := hid hb
  clear h hb
  by_cases hl : len ≤ 1048576
  · go_enter Try.func5, Try.ntmps5
    go_wp2
    go_loopw [3, 4] (fun n i wr => ∃ k : Nat, k ≤ len ∧ i = .int .i64 k ∧ n = .int .i64 (bt L len k : Int) ∧ bt L len k ≤ 1048576 ∧ wr = w) (fun _ i _ => len - (intOf i).toNat)
    case atStart => exact ⟨0, Nat.zero_le _, rfl, rfl, hl, rfl⟩
    case round =>
      obtain ⟨k, hk, rfl, rfl, hkb, hwr⟩ := hrel
      subst wr
      by_cases hlt : k < len
      · obtain ⟨b, off, ha, hb, hc⟩ := HS.out (by omega)
        cases ha
        have c1 := hc k hlt
        have hs1 : bt L len (k + 1) = bt L len k + (L.getD k []).length := rfl
        obtain ⟨part, hp⟩ : ∃ part, L.getD k [] = part := ⟨_, rfl⟩
        rw [hp] at c1 hs1
        obtain ⟨S, hS⟩ : ∃ S, bt L len k = S := ⟨_, rfl⟩
        rw [hS] at hs1 hkb ⊢
        have hbz := ba_size part
        have HS1 := hid hs1
        clear hs1 hS hp hc
        by_cases hp1 : 1048576 < part.length
        · go_wp2
          go_ret
          exact ⟨rfl, rfl⟩
        · by_cases hp2 : 1048576 < S + part.length
          · go_wp2
            go_ret
            exact ⟨rfl, rfl⟩
          · go_wp2
            go_roundw
            case rel => exact ⟨k + 1, hlt, by go_num, by rw [HS1.out]; go_num, by rw [HS1.out]; omega, trivial⟩
            case measure => simp [intOf]; omega
      · obtain rfl : k = len := by omega
        exact absurd hkb HB.out
  · go_enter Try.func5, Try.ntmps5
    go_wp2
    go_ret
    exact ⟨rfl, rfl⟩

set_option maxRecDepth 100000 in
set_option maxHeartbeats 1000000 in
theorem add6_ok {D : Nat} {w : World} {ao : Option Addr} {len cap : Nat} {L : List (List UInt8)} (h : Ss D w ao len L) (hb : ad L len ≤ 1048576) (hl : len ≤ 65536) :
    Calls Try.prog 6 #[.int .i64 0, .slice ao len cap] w fun e w' => e = .returned (.int .i64 (ad L len : Int)) ∧ w' = w := by
  have HS := hid h.spot
  have HB := hid hb
  clear h hb
  go_enter Try.func6, Try.ntmps6
  go_wp2
  go_loopw [0, 5] (fun n i wr => ∃ k : Nat, k ≤ len ∧ i = .int .i64 k ∧ n = .int .i64 (ad L k : Int) ∧ wr = w) (fun _ i _ => len - (intOf i).toNat)
  case atStart => exact ⟨0, Nat.zero_le _, rfl, rfl, rfl⟩
  case round =>
    obtain ⟨k, hk, rfl, rfl, hwr⟩ := hrel
    subst wr
    by_cases hlt : k < len
    · obtain ⟨b, off, ha, hb, hc⟩ := HS.out (by omega)
      cases ha
      have c1 := hc k hlt
      have hs1 : ad L (k + 1) = ad L k + ((L.getD k []).length + 16) := rfl
      have hs2 := ad_mono L (show k + 1 ≤ len by omega)
      have hs3 := HB.out
      obtain ⟨part, hp⟩ : ∃ part, L.getD k [] = part := ⟨_, rfl⟩
      rw [hp] at c1 hs1
      obtain ⟨S, hS⟩ : ∃ S, ad L k = S := ⟨_, rfl⟩
      rw [hS] at hs1 ⊢
      have hbz := ba_size part
      obtain ⟨T, hT⟩ : ∃ T : Int, (S : Int) + ((part.length : Int) + 16) = T := ⟨_, rfl⟩
      have wr0 : IntKind.i64.wrap ((part.length : Int) + 16) = (part.length : Int) + 16 := IntWalk.i64_in _ (by omega)
      have wr1 : IntKind.i64.wrap T = T := IntWalk.i64_in _ (by omega)
      have t1 : decide (1048576 < T) = false := by simp; omega
      have HT := hid hT
      have HS1 := hid hs1
      clear hs1 hs2 hs3 hS hp hc
      go_wp2
      go_roundw
      case rel => exact ⟨k + 1, hlt, by go_num, by rw [HS1.out, ← HT.out]; go_num, trivial⟩
      case measure => simp [intOf]; omega
    · obtain rfl : k = len := by omega
      go_wp2
      go_ret
      exact ⟨rfl, rfl⟩

set_option maxRecDepth 100000 in
set_option maxHeartbeats 1000000 in
theorem add6_bad {D : Nat} {w : World} {ao : Option Addr} {len cap : Nat} {L : List (List UInt8)} (h : Ss D w ao len L) (hb : ¬ ad L len ≤ 1048576) (hl : len ≤ 65536) (hp0 : ∀ i, i < len → (L.getD i []).length ≤ 1048576) :
    Calls Try.prog 6 #[.int .i64 0, .slice ao len cap] w fun e w' => ∃ t : Nat, 1048576 < t ∧ e = .returned (.int .i64 (t : Int)) ∧ w' = w := by
  have HS := hid h.spot
  have HB := hid hb
  have HP := hid hp0
  clear h hb hp0
  go_enter Try.func6, Try.ntmps6
  go_wp2
  go_loopw [0, 5] (fun n i wr => ∃ k : Nat, k ≤ len ∧ i = .int .i64 k ∧ n = .int .i64 (ad L k : Int) ∧ ad L k ≤ 1048576 ∧ wr = w) (fun _ i _ => len - (intOf i).toNat)
  case atStart => exact ⟨0, Nat.zero_le _, rfl, rfl, by simp [ad], rfl⟩
  case round =>
    obtain ⟨k, hk, rfl, rfl, hkb, hwr⟩ := hrel
    subst wr
    by_cases hlt : k < len
    · obtain ⟨b, off, ha, hb, hc⟩ := HS.out (by omega)
      cases ha
      have c1 := hc k hlt
      have hpl := HP.out k hlt
      have hs1 : ad L (k + 1) = ad L k + ((L.getD k []).length + 16) := rfl
      obtain ⟨part, hp⟩ : ∃ part, L.getD k [] = part := ⟨_, rfl⟩
      rw [hp] at c1 hs1 hpl
      obtain ⟨S, hS⟩ : ∃ S, ad L k = S := ⟨_, rfl⟩
      rw [hS] at hs1 hkb ⊢
      have hbz := ba_size part
      have HS1 := hid hs1
      obtain ⟨T, hT⟩ : ∃ T : Int, (S : Int) + ((part.length : Int) + 16) = T := ⟨_, rfl⟩
      have wr0 : IntKind.i64.wrap ((part.length : Int) + 16) = (part.length : Int) + 16 := IntWalk.i64_in _ (by omega)
      have wr1 : IntKind.i64.wrap T = T := IntWalk.i64_in _ (by omega)
      have HT := hid hT
      clear hs1 hS hp hc
      by_cases hp2 : 1048576 < T
      · have t1 : decide (1048576 < T) = true := by simp; omega
        go_wp2
        go_ret
        exact ⟨S + (part.length + 16), by have := HT.out; omega, by rw [← HT.out]; simp, rfl⟩
      · have t1 : decide (1048576 < T) = false := by simp; omega
        go_wp2
        go_roundw
        case rel => exact ⟨k + 1, hlt, by go_num, by rw [HS1.out, ← HT.out]; go_num, by have := HT.out; rw [HS1.out]; omega, trivial⟩
        case measure => simp [intOf]; omega
    · obtain rfl : k = len := by omega
      exact absurd hkb HB.out
end Go.Proofs.Qxb6616816a
