import Derived.Test.Qxb6616660aFast
namespace Go.Proofs.Qxb6616660a
open Go.RowKit Go.Qm

theorem andNot_key (n : Int) (M : Nat) (hM : M < 18446744073709551616) : (BitVec.ofInt 64 n &&& ~~~ BitVec.ofInt 64 (M : Int)).toNat = (n % ((2 ^ 64 : Nat) : Int)).toNat &&& (18446744073709551615 - M) := by
  rw [BitVec.toNat_and, BitVec.toNat_not, BitVec.toNat_ofInt, ofInt_u64 M hM]
theorem i64_andNot7 (n : Int) (h0 : -9223372036854775808 ≤ n) (h1 : n ≤ 9223372036854775807) : bits .andNot .i64 n 7 = n - n % 8 := by
  show IntKind.i64.wrap ((BitVec.ofInt 64 n &&& ~~~ BitVec.ofInt 64 7).toNat : Nat) = _
  have := andNot_key n 7 (by decide)
  rw [show ((7 : Nat) : Int) = 7 from rfl] at this
  rw [this, nat_hi64_3, IntKind.wrap_i64]
  omega
theorem i64_andNot3 (n : Int) (h0 : -9223372036854775808 ≤ n) (h1 : n ≤ 9223372036854775807) : bits .andNot .i64 n 3 = n - n % 4 := by
  show IntKind.i64.wrap ((BitVec.ofInt 64 n &&& ~~~ BitVec.ofInt 64 3).toNat : Nat) = _
  have := andNot_key n 3 (by decide)
  rw [show ((3 : Nat) : Int) = 3 from rfl] at this
  rw [this, nat_hi64_2, IntKind.wrap_i64]
  omega
theorem i64_andNot1 (n : Int) (h0 : -9223372036854775808 ≤ n) (h1 : n ≤ 9223372036854775807) : bits .andNot .i64 n 1 = n - n % 2 := by
  show IntKind.i64.wrap ((BitVec.ofInt 64 n &&& ~~~ BitVec.ofInt 64 1).toNat : Nat) = _
  have := andNot_key n 1 (by decide)
  rw [show ((1 : Nat) : Int) = 1 from rfl] at this
  rw [this, nat_hi64_1, IntKind.wrap_i64]
  omega
theorem i64_andNot0 (n : Int) (h0 : -9223372036854775808 ≤ n) (h1 : n ≤ 9223372036854775807) : bits .andNot .i64 n 0 = n := by
  show IntKind.i64.wrap ((BitVec.ofInt 64 n &&& ~~~ BitVec.ofInt 64 0).toNat : Nat) = _
  have := andNot_key n 0 (by decide)
  rw [show ((0 : Nat) : Int) = 0 from rfl] at this
  rw [this, show 18446744073709551615 - 0 = 2 ^ 64 - 1 by decide, Nat.and_two_pow_sub_one_eq_mod, IntKind.wrap_i64]
  omega
theorem i64_and7 (n : Int) : bits .and .i64 n 7 = n % 8 := by
  have h7 : (BitVec.ofInt 64 7).toNat = 2 ^ 3 - 1 := by decide
  have key : (BitVec.ofInt 64 n &&& BitVec.ofInt 64 7).toNat = (n % ((2 ^ 64 : Nat) : Int)).toNat % 2 ^ 3 := by
    rw [BitVec.toNat_and, BitVec.toNat_ofInt, h7, Nat.and_two_pow_sub_one_eq_mod]
  show IntKind.i64.wrap ((BitVec.ofInt 64 n &&& BitVec.ofInt 64 7).toNat : Nat) = n % 8
  rw [key, IntKind.wrap_i64]
  omega
theorem andNot_per {bl J : Nat} (h3 : 3 ≤ bl) (h6 : bl ≤ 6) (hJ : J ≤ 16777216) : bits BinOp.andNot IntKind.i64 (J : Int) (((per bl : Nat) : Int) - 1) = ((J / per bl * per bl : Nat) : Int) := by
  rcases bl_cases h3 h6 with rfl | rfl | rfl | rfl
  · rw [show (((per 3 : Nat) : Int) - 1) = 7 from rfl, i64_andNot7 _ (by omega) (by omega), per3]; omega
  · rw [show (((per 4 : Nat) : Int) - 1) = 3 from rfl, i64_andNot3 _ (by omega) (by omega), per4]; omega
  · rw [show (((per 5 : Nat) : Int) - 1) = 1 from rfl, i64_andNot1 _ (by omega) (by omega), per5]; omega
  · rw [show (((per 6 : Nat) : Int) - 1) = 0 from rfl, i64_andNot0 _ (by omega) (by omega), per6]; omega

theorem fast_nums {bl J K N : Nat} (h3 : 3 ≤ bl) (h6 : bl ≤ 6) (hN : 1 ≤ N) (hJK : J % 8 = K % 8) :
    ((K : Int) - (J : Int) = ((K / per bl : Nat) - (J / per bl : Nat) : Int) * ((per bl : Nat) : Int)) ∧ J / per bl ≤ (J + N - 1) / per bl ∧ K / per bl + ((J + N - 1) / per bl + 1 - J / per bl) = (K + N - 1) / per bl + 1 ∧ J + N ≤ ((J + N - 1) / per bl + 1) * per bl := by
  rcases bl_cases h3 h6 with rfl | rfl | rfl | rfl <;> simp [per] <;> omega

set_option maxRecDepth 100000 in
set_option maxHeartbeats 1000000 in
theorem addAll_fast {w : World} {bc gc bo : Nat} {pre post : List Value} {T : TypeId} {g : Nat} {ws : List Nat} {bl m : Nat} (o : Nat) (ho : pre.length = o)
    (hc : Cn w bc [] [] 50 gc (List.replicate m 0) bl) (h : Cn w bo pre post T g ws bl) (n1 : gc ≠ g) (n2 : gc ≠ bo) (J K N : Nat) (hN : 1 ≤ N) (hJK : J % 8 = K % 8) (hJm : J + N ≤ m * per bl) (hKl : K + N ≤ ws.length * per bl) :
    Calls Try.prog 35 #[.pointer (some ⟨bc, 0, none⟩), .pointer (some ⟨bo, o, none⟩), .int .i64 (J : Int), .int .i64 (K : Int), .int .i64 (N : Int)] w
      fun e w' => (∃ f : Int, e = .returned (.int .i64 f)) ∧ Blk w' gc (W64 (cpart ws m (J / per bl) (K / per bl) ((J + N - 1) / per bl + 1 - J / per bl))) 25 ∧ Upd [gc] w w' := by
  have c2 : w.cell? ⟨bc, 2, none⟩ = some (.int .u8 (bl : Int)) := hc.c2
  have c3 : w.cell? ⟨bc, 3, none⟩ = some (.int .u8 ((6 - bl : Nat) : Int)) := hc.c3
  have o2 : w.cell? ⟨bo, o + 2, none⟩ = some (.int .u8 (bl : Int)) := by subst ho; exact h.c2
  have h6 := hc.h6
  have h3 := hc.h3
  have hlen := h.len
  have hmlen := hc.len
  rw [List.length_replicate] at hmlen
  have hp0 := per_pos bl
  have hp := per_le h3 h6
  have b1 : m * per bl ≤ 2097152 * 8 := Nat.mul_le_mul hmlen hp
  have b2 : ws.length * per bl ≤ 2097152 * 8 := Nat.mul_le_mul hlen hp
  obtain ⟨f1, f2, f3, f4⟩ := fast_nums h3 h6 hN hJK
  have hz := andNot_per (J := J) h3 h6 (by omega)
  have e2 : (2 : Int) ^ (6 - bl) = ((per bl : Nat) : Int) := by simp [per]
  have hKw : (K + N - 1) / per bl < ws.length := by rw [Nat.div_lt_iff_lt_mul hp0]; omega
  have HA := hid fun wx e => addWords_fast o ho (Cn_heap (w' := wx) hc e) (Cn_heap h e) n1 n2 (J / per bl * per bl) (J + N) (J / per bl) ((J + N - 1) / per bl) (K / per bl) (((J + N - 1) / per bl + 1) * per bl) ((K : Int) - (J : Int)) ((K / per bl : Nat) - (J / per bl : Nat) : Int)
    rfl (by omega) rfl f2 (by rw [Nat.div_lt_iff_lt_mul hp0]; omega) f1 (by omega) (by omega) rfl (by omega) (by omega)
  obtain ⟨pl, hpl⟩ : ∃ pl, 6 - bl = pl := ⟨_, rfl⟩
  rw [hpl] at c3 e2
  have hI : J / per bl * per bl ≤ J := Nat.div_mul_le_self J (per bl)
  generalize J / per bl * per bl = I at *
  generalize ((J + N - 1) / per bl + 1) * per bl = R at *
  generalize cpart ws m (J / per bl) (K / per bl) ((J + N - 1) / per bl + 1 - J / per bl) = fin at *
  generalize per bl = p' at *
  have hmin : min pl 64 = pl := by omega
  have hnw : decide ((bl : Int) < (bl : Int)) = false := by simp
  clear hpl hc h ho f1 f2 f3
  go_enter Try.func35, Try.ntmps35
  go_wp2
  go_quiet (fail)
  go_wp2
  go_loopw [10, 12] (fun f i wr => (∃ F : Int, f = .int .i64 F) ∧ ((i = .int .i64 (I : Int) ∧ Hid (wr.heap = w.heap) ∧ Upd [gc] w wr) ∨ (i = .int .i64 (R : Int) ∧ Blk wr gc (W64 fin) 25 ∧ Upd [gc] w wr))) (fun _ i _ => R - (intOf i).toNat)
  case atStart => exact ⟨⟨0, rfl⟩, Or.inl ⟨rfl, hid rfl, Upd.drewN _ _ _⟩⟩
  case round =>
    obtain ⟨⟨F, rfl⟩, hst⟩ := hrel
    rcases hst with ⟨rfl, hh, hu⟩ | ⟨rfl, hrow, hu⟩
    · go_wp2_with (go_at_call 41; refine (HA.out _ hh.out).mono ?_; rintro e w1 ⟨⟨f1, rfl⟩, hrow1, hu1⟩)
      go_roundw
      case rel => exact ⟨⟨_, rfl⟩, Or.inr ⟨rfl, hrow1, hu.trans hu1⟩⟩
      case measure => simp [intOf]; omega
    · go_wp2
      go_ret
      exact ⟨⟨F, rfl⟩, hrow, hu⟩
end Go.Proofs.Qxb6616660a
