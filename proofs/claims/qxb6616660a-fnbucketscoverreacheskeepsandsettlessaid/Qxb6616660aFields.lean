import Derived.Test.Qxb6616660aBl
import Derived.Deep.RegionHeld3
import Derived.Laws.Pointers
import Derived.StillTactics
namespace Go.Proofs.Qxb6616660a
open Go.RowKit Go.Qm

theorem and_le (x : Int) (t : Nat) (ht : t < 18446744073709551616) (h0 : 0 ≤ x) (h1 : x ≤ 18446744073709551615) : 0 ≤ bits .and .u64 x (t : Int) ∧ bits .and .u64 x (t : Int) ≤ (t : Int) := by
  obtain ⟨X, rfl⟩ := Int.eq_ofNat_of_zero_le h0
  rw [u64_and_nat X t (by omega) ht]
  have : X &&& t ≤ t := Nat.and_le_right
  omega

/-- Whatever ends in a wrap or in bits of 64 lies in 64 bits. -/
theorem bits_range (op : BinOp) (a b : Int) : 0 ≤ bits op .u64 a b ∧ bits op .u64 a b ≤ 18446744073709551615 := by
  unfold bits
  simp only [IntKind.wrap_u64]
  omega

set_option maxHeartbeats 400000 in
theorem nonZero_any (bo to dn up y : Nat) (w : World) (hto : to < 18446744073709551616) :
    Calls Try.prog 49 #[.agg #[.int .u64 (bo : Int), .int .u64 (to : Int), .int .u64 (dn : Int), .int .u64 (up : Int)], .int .u64 (y : Int)] w fun e w' => (∃ r : Int, 0 ≤ r ∧ r ≤ to ∧ e = .returned (.int .u64 r)) ∧ ∃ c, w' = w.alloc (.cells c 73) := by
  go_enter Try.func49, Try.ntmps49
  go_wp2
  go_ret
  refine ⟨⟨_, ?_, ?_, rfl⟩, _, rfl⟩
  · exact (and_le _ to hto (bits_range _ _ _).1 (bits_range _ _ _).2).1
  · exact (and_le _ to hto (bits_range _ _ _).1 (bits_range _ _ _).2).2

set_option maxHeartbeats 400000 in
theorem count_any (bo to dn up : Nat) (y : Int) (w : World) (hdn : dn ≤ 63) (hup : up ≤ 63) :
    Calls Try.prog 46 #[.agg #[.int .u64 (bo : Int), .int .u64 (to : Int), .int .u64 (dn : Int), .int .u64 (up : Int)], .int .u64 y] w fun e w' => (∃ r : Int, e = .returned (.int .i64 r)) ∧ ∃ c, w' = w.alloc (.cells c 73) := by
  go_enter Try.func46, Try.ntmps46
  go_wp2
  go_ret
  exact ⟨⟨_, rfl⟩, _, rfl⟩

/-- The layout of the fields. -/
def fbot (bl : Nat) : Nat := 18446744073709551615 / full bl
def ftop (bl : Nat) : Nat := fbot bl * 2 ^ (wid bl - 1)
def fdn (bl : Nat) : Nat := wid bl - 1
def fup (bl : Nat) : Nat := 64 - wid bl
theorem ftop_lt {bl : Nat} (h3 : 3 ≤ bl) (h6 : bl ≤ 6) : ftop bl < 18446744073709551615 := by
  rcases bl_cases h3 h6 with rfl | rfl | rfl | rfl <;> decide
theorem fdn_le {bl : Nat} (h3 : 3 ≤ bl) (h6 : bl ≤ 6) : fdn bl ≤ 63 ∧ fup bl ≤ 63 := by
  rcases bl_cases h3 h6 with rfl | rfl | rfl | rfl <;> decide

set_option maxHeartbeats 400000 in
theorem fields_any (b o bl : Nat) (w : World) (h3 : 3 ≤ bl) (h6 : bl ≤ 6)
    (hc1 : w.cell? ⟨b, o + 1, none⟩ = some (.int .u64 ((full bl : Nat) : Int))) (hc2 : w.cell? ⟨b, o + 2, none⟩ = some (.int .u8 (bl : Int))) :
    Calls Try.prog 44 #[.pointer (some ⟨b, o, none⟩)] w fun e w' => e = .returned (.agg #[.int .u64 ((fbot bl : Nat) : Int), .int .u64 ((ftop bl : Nat) : Int), .int .u64 ((fdn bl : Nat) : Int), .int .u64 ((fup bl : Nat) : Int)]) ∧ ∃ c, w' = w.alloc (.cells c 73) := by
  have hlt := World.block_lt_of_cell? w _ hc1
  have a1 : bits BinOp.and IntKind.u64 7 63 = 7 := by decide
  have a2 : bits BinOp.and IntKind.u64 56 63 = 56 := by decide
  have a3 : bits BinOp.and IntKind.u64 15 63 = 15 := by decide
  have a4 : bits BinOp.and IntKind.u64 48 63 = 48 := by decide
  have a5 : bits BinOp.and IntKind.u64 31 63 = 31 := by decide
  have a6 : bits BinOp.and IntKind.u64 32 63 = 32 := by decide
  have a7 : bits BinOp.and IntKind.u64 63 63 = 63 := by decide
  have a8 : bits BinOp.and IntKind.u64 0 63 = 0 := by decide
  rcases bl_cases h3 h6 with rfl | rfl | rfl | rfl
  · rw [show ((full 3 : Nat) : Int) = 255 from rfl] at hc1
    go_enter Try.func44, Try.ntmps44
    go_wp2
    exact bodyPost_ret (v := .agg #[.int .u64 72340172838076673, .int .u64 9259542123273814144, .int .u64 7, .int .u64 56]) (by simp [results, Try.results44, go_sem]) rfl ⟨rfl, _, rfl⟩
  · rw [show ((full 4 : Nat) : Int) = 65535 from rfl] at hc1
    go_enter Try.func44, Try.ntmps44
    go_wp2
    exact bodyPost_ret (v := .agg #[.int .u64 281479271743489, .int .u64 9223512776490647552, .int .u64 15, .int .u64 48]) (by simp [results, Try.results44, go_sem]) rfl ⟨rfl, _, rfl⟩
  · rw [show ((full 5 : Nat) : Int) = 4294967295 from rfl] at hc1
    go_enter Try.func44, Try.ntmps44
    go_wp2
    exact bodyPost_ret (v := .agg #[.int .u64 4294967297, .int .u64 9223372039002259456, .int .u64 31, .int .u64 32]) (by simp [results, Try.results44, go_sem]) rfl ⟨rfl, _, rfl⟩
  · rw [show ((full 6 : Nat) : Int) = 18446744073709551615 from rfl] at hc1
    go_enter Try.func44, Try.ntmps44
    go_wp2
    exact bodyPost_ret (v := .agg #[.int .u64 1, .int .u64 9223372036854775808, .int .u64 63, .int .u64 0]) (by simp [results, Try.results44, go_sem]) rfl ⟨rfl, _, rfl⟩
end Go.Proofs.Qxb6616660a
