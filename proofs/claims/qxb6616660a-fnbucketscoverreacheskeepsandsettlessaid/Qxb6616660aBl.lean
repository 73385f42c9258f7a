import Derived.Test.Qxb6616660aPlain2
import Derived.Test.Qxb6616660aShelf
import Derived.Test.Qxb6616660aZz
namespace Go.Qm
theorem bitLen_bd {x : Nat} (h : x < 18446744073709551616) (h0 : x ≠ 0) : 1 ≤ Lib.bitLen x ∧ 2 ^ (Lib.bitLen x - 1) ≤ x ∧ x < 2 ^ Lib.bitLen x :=
  Lib.bitLenAux_bounds 64 x h h0
theorem pow_lt_inv {a b : Nat} (h : 2 ^ a < 2 ^ b) : a < b := by
  rcases Nat.lt_or_ge a b with h' | h'
  · exact h'
  · have := Nat.pow_le_pow_right (n := 2) (by decide) h'
    omega
theorem pow_le_inv {a b : Nat} (h : 2 ^ a ≤ 2 ^ b) : a ≤ b := by
  rcases Nat.lt_or_ge b a with h' | h'
  · have := Nat.pow_lt_pow_right (a := 2) (by decide) h'
    omega
  · exact h'
/-- The bitsLog of the narrowest fields that hold v. -/
def blF (v : Nat) : Nat := Lib.bitLen (Lib.bitLen (v ||| 255) - 1)
theorem blF_facts {v : Nat} (hv : v < 18446744073709551616) : 8 ≤ Lib.bitLen (v ||| 255) ∧ Lib.bitLen (v ||| 255) ≤ 64 ∧ 3 ≤ blF v ∧ blF v ≤ 6 ∧ v < 2 ^ wid (blF v) ∧ ∀ b, 2 ^ wid b ≤ v → b < blF v := by
  have hu : v ||| 255 < 2 ^ 64 := Nat.or_lt_two_pow (by omega) (by decide)
  have hle : v ≤ v ||| 255 := Nat.left_le_or
  have h255 : 255 ≤ v ||| 255 := Nat.right_le_or
  obtain ⟨h1, h2, h3⟩ := bitLen_bd (by omega) (show v ||| 255 ≠ 0 by omega)
  unfold blF
  generalize hn : Lib.bitLen (v ||| 255) = n at *
  have h8 : 8 ≤ n := by
    have : 2 ^ 7 < 2 ^ n := by
      have : (2 : Nat) ^ 7 = 128 := by decide
      omega
    have := pow_lt_inv this; omega
  have h64 : n ≤ 64 := by
    have := pow_lt_inv (show 2 ^ (n - 1) < 2 ^ 64 by omega); omega
  obtain ⟨g1, g2, g3⟩ := bitLen_bd (show n - 1 < 18446744073709551616 by omega) (show n - 1 ≠ 0 by omega)
  generalize hb : Lib.bitLen (n - 1) = b at *
  have b3 : 3 ≤ b := by
    have : 2 ^ 2 < 2 ^ b := by
      have : (2 : Nat) ^ 2 = 4 := by decide
      omega
    have := pow_lt_inv this; omega
  have b6 : b ≤ 6 := by
    have : 2 ^ (b - 1) < 2 ^ 6 := by
      have : (2 : Nat) ^ 6 = 64 := by decide
      omega
    have := pow_lt_inv this; omega
  refine ⟨h8, h64, b3, b6, ?_, fun c hc => ?_⟩
  · have : 2 ^ n ≤ 2 ^ wid b := Nat.pow_le_pow_right (by decide) (by unfold wid; omega)
    omega
  · have h5 := pow_lt_inv (show 2 ^ wid c < 2 ^ n by omega)
    unfold wid at h5
    exact pow_lt_inv (show 2 ^ c < 2 ^ b by omega)
end Go.Qm
namespace Go.Proofs.Qxb6616660a
open Go.RowKit Go.Qm

set_option maxHeartbeats 400000 in
theorem blfor_any (v : Nat) (w : World) (hv : v < 18446744073709551616) :
    Calls Try.prog 33 #[.int .u64 (v : Int)] w fun e w' => e = .returned (.int .u8 ((blF v : Nat) : Int)) ∧ w' = w := by
  obtain ⟨f1, f2, f3, f4, _, _⟩ := blF_facts hv
  have hu : v ||| 255 < 2 ^ 64 := Nat.or_lt_two_pow (by omega) (by decide)
  have hor : bits BinOp.or IntKind.u64 (v : Int) 255 = ((v ||| 255 : Nat) : Int) := u64_or_nat v 255 hv (by decide)
  have H1 := hid (Try.bits_Len64 ((v ||| 255 : Nat) : Int) w (by omega) (by omega))
  rw [Int.toNat_natCast] at H1
  have H2 := hid (Try.bits_Len ((Lib.bitLen (v ||| 255) - 1 : Nat) : Int) w (by omega) (by omega))
  rw [Int.toNat_natCast] at H2
  rw [show Lib.bitLen (Lib.bitLen (v ||| 255) - 1) = blF v from rfl] at H2
  generalize blF v = b at *
  generalize Lib.bitLen (v ||| 255) = n at *
  generalize v ||| 255 = u at *
  have hn1 : ((n - 1 : Nat) : Int) = (n : Int) - 1 := by omega
  rw [hn1] at H2
  clear hn1
  go_enter Try.func33, Try.ntmps33
  go_wp2_with (first | (go_at_call 37; refine H1.out.mono ?_; rintro e w1 ⟨rfl, rfl⟩) | (go_at_call 36; refine H2.out.mono ?_; rintro e w1 ⟨rfl, rfl⟩))
  go_ret
  exact ⟨rfl, rfl⟩
end Go.Proofs.Qxb6616660a
