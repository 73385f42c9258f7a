import Derived.Test.Qxb6616660aDoorRows
import Derived.Test.Qxb6616660aDoorPlain
import Derived.WalkKit
import Derived.WalkSpells
import Derived.WalkLawsBesides
import Derived.Deep.QuietTactic
import Derived.BigQuiet
import Derived.Below
import Derived.Laws.BitsAllLaws
namespace Go.Proofs.Qxb6616660aDoor
open Go.RowKit Go.Qm

theorem ret_two {k k' : IntKind} {a b a' b' : Int} (h : a = a') (h' : b = b') : Ending.returned (.tuple #[.int k a, .int k' b]) = .returned (.tuple #[.int k a', .int k' b']) := by rw [h, h']

theorem or_join (X y k : Nat) (hX : X < 2 ^ (7 * k)) (hk : k ≤ 9) (hy : y < 128) (hy9 : k = 9 → y ≤ 1) :
    bits .or .u64 (X : Int) (IntKind.u64.wrap ((y : Int) * 2 ^ (7 * k))) = ((X + y * 2 ^ (7 * k) : Nat) : Int) := by
  have hle : y * 2 ^ (7 * k) + 2 ^ (7 * k) ≤ 18446744073709551616 := by
    rcases Nat.lt_or_ge k 9 with h | h
    · have hp : 2 ^ (7 * k) * 128 ≤ 2 ^ 63 := by
        rw [show (128 : Nat) = 2 ^ 7 from rfl, ← Nat.pow_add]
        exact Nat.pow_le_pow_right (by decide) (by omega)
      have hm : y * 2 ^ (7 * k) ≤ 127 * 2 ^ (7 * k) := Nat.mul_le_mul_right _ (by omega)
      omega
    · obtain rfl : k = 9 := by omega
      have := hy9 rfl
      have e : (2 : Nat) ^ (7 * 9) = 9223372036854775808 := by decide
      rw [e]
      omega
  have hp := Nat.two_pow_pos (7 * k)
  have e1 : ((y : Int) * 2 ^ (7 * k)) = ((y * 2 ^ (7 * k) : Nat) : Int) := by simp
  have e2 : IntKind.u64.wrap ((y * 2 ^ (7 * k) : Nat) : Int) = ((y * 2 ^ (7 * k) : Nat) : Int) := IntWalk.u64_in _ (by omega)
  rw [e1, e2, u64_or_nat _ _ (by omega) (by omega), Nat.or_comm, nat_join (7 * k) _ _ (Nat.mul_mod_left _ _) hX, Nat.add_comm]
theorem or_bounds (a b : Int) (ha0 : 0 ≤ a) (ha : a ≤ 18446744073709551615) : 0 ≤ bits .or .u64 a (IntKind.u64.wrap b) ∧ bits .or .u64 a (IntKind.u64.wrap b) ≤ 18446744073709551615 := by
  have hb : 0 ≤ IntKind.u64.wrap b ∧ IntKind.u64.wrap b < 18446744073709551616 := by rw [IntKind.wrap_u64]; omega
  obtain ⟨A, rfl⟩ := Int.eq_ofNat_of_zero_le ha0
  obtain ⟨B, hB⟩ := Int.eq_ofNat_of_zero_le hb.1
  rw [hB, u64_or_nat _ _ (by omega) (by omega)]
  have := Nat.or_lt_two_pow (n := 64) (x := A) (y := B) (by omega) (by omega)
  omega

theorem wrap9 (y : Nat) (h : y ≤ 1) : IntKind.u64.wrap ((y : Int) * 2 ^ (7 * 9)) = (y : Int) * 9223372036854775808 := by
  rw [show ((2 : Int) ^ (7 * 9)) = 9223372036854775808 from rfl]
  exact IntWalk.u64_in _ (by omega)
theorem uv_rel {l : List UInt8} {k y z : Nat} {X : Int} (hl : k < l.length) (hk : k ≤ 9) (hX0 : 0 ≤ X) (hX1 : X ≤ 18446744073709551615) (hX : k ≤ 9 → X = (num (dg l k) : Nat))
    (hy : (l.getD k 0).toNat = y) (hz : y % 128 = z) :
    0 ≤ bits .or .u64 X (IntKind.u64.wrap ((z : Int) * 2 ^ (7 * k))) ∧ bits .or .u64 X (IntKind.u64.wrap ((z : Int) * 2 ^ (7 * k))) ≤ 18446744073709551615 ∧
      (k + 1 ≤ 9 → bits .or .u64 X (IntKind.u64.wrap ((z : Int) * 2 ^ (7 * k))) = (num (dg l (k + 1)) : Nat)) := by
  obtain ⟨b1, b2⟩ := or_bounds X ((z : Int) * 2 ^ (7 * k)) hX0 hX1
  refine ⟨b1, b2, fun h => ?_⟩
  rw [hX hk, or_join (num (dg l k)) z k (num_dg_lt l k (by omega)) hk (by omega) (by omega), num_dg_succ l k hl, hy, hz]
theorem uv_not9 {l : List UInt8} (_hl : 9 < l.length) (hj : ∀ j, j < 9 → 128 ≤ (l.getD j 0).toNat) (hy : 1 < (l.getD 9 0).toNat) : ∀ t, ¬ Term l t := by
  rintro t ⟨h1, h2, h3, h4, h5⟩
  rcases Nat.lt_or_ge t 9 with h | h
  · have := hj t h; omega
  · obtain rfl : t = 9 := by omega
    have := h4 rfl; omega
theorem uv_term {l : List UInt8} {k : Nat} (hl : k < l.length) (h9 : k ≤ 9) (hj : ∀ j, j < k → 128 ≤ (l.getD j 0).toNat) (hy : (l.getD k 0).toNat < 128) (hy9 : k = 9 → (l.getD k 0).toNat ≤ 1) : Term l k := ⟨hl, h9, hy, hy9, hj⟩

set_option maxRecDepth 100000 in
set_option maxHeartbeats 400000 in
theorem uv_any {D : Nat} {w : World} {ao : Option Addr} {len cap : Nat} {l : List UInt8} (h : Bs D w ao len cap l) (hl : len ≤ 2097152) :
    Calls Tryd.prog 14 #[.slice ao len cap] w fun e w' => (∃ v k : Int, e = .returned (.tuple #[.int .u64 v, .int .i64 k]) ∧ ((∃ t, Term l t ∧ v = (num (dg l (t + 1)) : Nat) ∧ k = t + 1) ∨ ((∀ t, ¬ Term l t) ∧ v = 0 ∧ k ≤ 0 ∧ -11 ≤ k))) ∧ w' = w := by
  by_cases h0 : len = 0
  · subst h0
    go_enter Tryd.func14, Tryd.ntmps14
    go_wp2
    go_loop [10] (fun i => i = .int .i64 0) (fun _ => 0)
    case atStart => rfl
    case round =>
      subst hrel
      go_wp2
      go_ret2
      exact ⟨⟨0, 0, rfl, Or.inr ⟨fun t ht => by have := ht.1; have := h.hlen; omega, rfl, by omega, by omega⟩⟩, rfl⟩
  · obtain ⟨b, off, rfl, hb, hc⟩ := h.spot (by omega)
    go_enter Tryd.func14, Tryd.ntmps14
    go_wp2
    go_loop [4, 5, 10] (fun x s i => ∃ k : Nat, k ≤ len ∧ k ≤ 10 ∧ i = .int .i64 k ∧ s = .int .u64 (7 * k : Nat) ∧ (∃ X : Int, x = .int .u64 X ∧ 0 ≤ X ∧ X ≤ 18446744073709551615 ∧ (k ≤ 9 → X = (num (dg l k) : Nat))) ∧ ∀ j, j < k → 128 ≤ (l.getD j 0).toNat) (fun _ _ i => len - (intOf i).toNat)
    case atStart => exact ⟨0, by omega, by omega, rfl, rfl, ⟨0, rfl, by omega, by omega, fun _ => by simp [dg, num]⟩, fun j hj => by omega⟩
    case round =>
      obtain ⟨k, hk, hk10, rfl, rfl, ⟨X, rfl, hX0, hX1, hX⟩, hj⟩ := hrel
      have HX := hid hX
      have HJ := hid hj
      have HC := hid hc
      clear hX hj hc
      by_cases hlt : k < len
      · have hcell := HC.out k hlt
        obtain ⟨y, hy⟩ : ∃ y, (l.getD k 0).toNat = y := ⟨_, rfl⟩
        have HY := hid hy
        rw [hy] at hcell
        have hy256 : y < 256 := by rw [← hy]; exact UInt8.toNat_lt _
        clear hy
        by_cases h10 : k = 10
        · subst h10
          go_wp2
          go_ret2
          exact ⟨⟨0, -11, rfl, Or.inr ⟨fun t ht => by have := HJ.out t (by have := ht.2.1; omega); have := ht.2.2.1; omega, rfl, by omega, by omega⟩⟩, rfl⟩
        · have hk9 : k ≤ 9 := by omega
          have hne : ((k : Int) == 10) = false := by simp; omega
          by_cases hy128 : y < 128
          · by_cases h9 : k = 9
            · subst h9
              by_cases hy1 : 1 < y
              · go_wp2
                go_ret2
                exact ⟨⟨0, -10, rfl, Or.inr ⟨fun t ht => uv_not9 (h.hlen ▸ hlt) HJ.out (by rw [HY.out]; exact hy1) t ht, rfl, by omega, by omega⟩⟩, rfl⟩
              · have hfin := or_join (num (dg l 9)) y 9 (num_dg_lt l 9 (by have := h.hlen; omega)) (by omega) hy128 (by omega)
                have HF := hid hfin
                clear hfin
                go_wp2
                go_ret2
                refine ⟨⟨_, _, rfl, Or.inl ⟨9, uv_term (h.hlen ▸ hlt) (by omega) HJ.out (by rw [HY.out]; exact hy128) (by rw [HY.out]; omega), ?_, rfl⟩⟩, rfl⟩
                have := HF.out
                rw [← HX.out (by omega)] at this
                rw [num_dg_succ l 9 (by have := h.hlen; omega), HY.out, Nat.mod_eq_of_lt hy128]
                refine Eq.trans ?_ this
                rw [wrap9 y (by omega)]
            · have hne9 : ((k : Int) == 9) = false := by simp; omega
              have hfin := or_join (num (dg l k)) y k (num_dg_lt l k (by have := h.hlen; omega)) (by omega) hy128 (by omega)
              have HF := hid hfin
              clear hfin
              go_wp2
              go_ret2
              refine ⟨⟨_, _, rfl, Or.inl ⟨k, uv_term (h.hlen ▸ hlt) (by omega) HJ.out (by rw [HY.out]; exact hy128) (by omega), ?_, rfl⟩⟩, rfl⟩
              have := HF.out
              rw [← HX.out (by omega)] at this
              rw [num_dg_succ l k (by have := h.hlen; omega), HY.out, Nat.mod_eq_of_lt hy128]
              exact this
          · have hand : bits BinOp.and IntKind.u8 (y : Int) 127 = ((y % 128 : Nat) : Int) := by
              have := u8_and_nat y 127 hy256 (by decide)
              rw [show ((127 : Nat) : Int) = 127 from rfl] at this
              rw [this, nat_mask7]
            obtain ⟨z, hz⟩ : ∃ z, y % 128 = z := ⟨_, rfl⟩
            rw [hz] at hand
            have HZ := hid hz
            have hz128 : z < 128 := by omega
            clear hz
            go_wp2
            go_round
            case rel => 
              obtain ⟨r1, r2, r3⟩ := uv_rel (h.hlen ▸ hlt) hk9 hX0 hX1 HX.out HY.out HZ.out
              exact ⟨k + 1, by omega, by omega, by go_num, by go_num, ⟨_, rfl, r1, r2, r3⟩, fun j hj => by
                rcases Nat.lt_or_ge j k with hh | hh
                · exact HJ.out j hh
                · obtain rfl : j = k := by omega
                  rw [HY.out]; omega⟩
            case measure => simp [intOf]; omega
      · go_wp2
        go_ret2
        exact ⟨⟨0, 0, rfl, Or.inr ⟨fun t ht => by have := h.hlen; have := ht.1; have := HJ.out t (by omega); have := ht.2.2.1; omega, rfl, by omega, by omega⟩⟩, rfl⟩
end Go.Proofs.Qxb6616660aDoor
