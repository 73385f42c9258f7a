import Derived.Test.Qxb6616660aZb
namespace Go.Proofs.Qxb6616660a
open Go.RowKit Go.Qm

/-- A script of adds behind a slice: bucket aI k counted aN k times. -/
structure Ad (D : Nat) (w : World) (ao : Option Addr) (len : Nat) (aI : Nat → Int) (aN : Nat → Nat) : Prop where
  spot : 0 < len → ∃ b off, ao = some ⟨b, off, none⟩ ∧ b < D ∧ ∀ i, i < len → w.cell? ⟨b, off + i * 2, none⟩ = some (.int .i64 (aI i)) ∧ w.cell? ⟨b, off + i * 2 + 1, none⟩ = some (.int .u64 (aN i : Int))
  hI : ∀ i, i < len → -9223372036854775808 ≤ aI i ∧ aI i ≤ 9223372036854775807
  hN : ∀ i, i < len → aN i < 18446744073709551616

theorem Ad.upd {D : Nat} {w w' : World} {ao : Option Addr} {len : Nat} {aI : Nat → Int} {aN : Nat → Nat} {S : List Nat} (h : Ad D w ao len aI aN) (hu : Upd S w w') (hS : ∀ x ∈ S, D ≤ x) : Ad D w' ao len aI aN := by
  refine ⟨fun hp => ?_, h.hI, h.hN⟩
  obtain ⟨b, off, ha, hb, hc⟩ := h.spot hp
  refine ⟨b, off, ha, hb, fun i hi => ?_⟩
  obtain ⟨c1, c2⟩ := hc i hi
  have hlt := World.block_lt_of_cell? w _ c1
  have e : w'.heap[b]? = w.heap[b]? := hu.block b hlt (fun hx => by have := hS b hx; omega)
  exact ⟨by rw [← c1]; simp only [World.cell?, e], by rw [← c2]; simp only [World.cell?, e]⟩
theorem Ad.heap {D : Nat} {w w' : World} {ao : Option Addr} {len : Nat} {aI : Nat → Int} {aN : Nat → Nat} (h : Ad D w ao len aI aN) (e : w'.heap = w.heap) : Ad D w' ao len aI aN := by
  refine ⟨fun hp => ?_, h.hI, h.hN⟩
  obtain ⟨b, off, ha, hb, hc⟩ := h.spot hp
  refine ⟨b, off, ha, hb, fun i hi => ?_⟩
  obtain ⟨c1, c2⟩ := hc i hi
  exact ⟨by rw [← c1]; simp only [World.cell?, e], by rw [← c2]; simp only [World.cell?, e]⟩

def mnN (lo : Int) (aI : Nat → Int) : Nat → Int
  | 0 => lo
  | k + 1 => min (mnN lo aI k) (aI k)
def mxN (hi : Int) (aI : Nat → Int) : Nat → Int
  | 0 => hi
  | k + 1 => max (mxN hi aI k) (aI k)
def csN (aI : Nat → Int) (aN : Nat → Nat) : Nat → Int → Nat
  | 0 => fun _ => 0
  | k + 1 => bump (csN aI aN k) (aI k) (aN k)

theorem min_yes {a m : Int} (h : a < m) : min m a = a := by omega
theorem min_no {a m : Int} (h : ¬ a < m) : min m a = m := by omega
theorem max_yes {a m : Int} (h : m < a) : max m a = a := by omega
theorem max_no {a m : Int} (h : ¬ m < a) : max m a = m := by omega

set_option maxRecDepth 100000 in
set_option maxHeartbeats 2000000 in
theorem window_any {D : Nat} {w : World} {ao : Option Addr} {len cap : Nat} {aI : Nat → Int} {aN : Nat → Nat} (h : Ad D w ao len aI aN) (hl : len ≤ 65536) (lo hi mn mx : Int) (hmn : mnN lo aI len = mn) (hmx : mxN hi aI len = mx) (ok : Bool) 
    (hok : ok = (decide (-4611686018427387903 ≤ mn) && decide (mx ≤ 4611686018427387903) && decide (mx - mn < 65536))) (hle : mn ≤ mx) :
    Calls Try.prog 12 #[.slice ao len cap, .int .i64 lo, .int .i64 hi] w fun e w' => e = .returned (.tuple #[.int .i64 mn, .int .i64 mx, .bool ok]) ∧ w' = w := by
  have HS := hid h.spot
  clear h
  have HOK := hid hok
  have HMN := hid hmn
  have HMX := hid hmx
  clear hok hmn hmx
  go_enter Try.func12, Try.ntmps12
  go_wp2
  go_loopw [10, 11, 12] (fun m M i wr => ∃ k : Nat, k ≤ len ∧ i = .int .i64 k ∧ m = .int .i64 (mnN lo aI k) ∧ M = .int .i64 (mxN hi aI k) ∧ wr = w) (fun _ _ i _ => len - (intOf i).toNat)
  case atStart => exact ⟨0, Nat.zero_le _, rfl, rfl, rfl, rfl⟩
  case round =>
    obtain ⟨k, hk, rfl, rfl, rfl, rfl⟩ := hrel
    by_cases hlt : k < len
    · obtain ⟨b, off, ha, hb, hc⟩ := HS.out (by omega)
      cases ha
      have c1 := (hc k hlt).1
      have e1 : mnN lo aI (k + 1) = min (mnN lo aI k) (aI k) := rfl
      have e2 : mxN hi aI (k + 1) = max (mxN hi aI k) (aI k) := rfl
      obtain ⟨m, hm⟩ : ∃ m, mnN lo aI k = m := ⟨_, rfl⟩
      obtain ⟨M, hM⟩ : ∃ M, mxN hi aI k = M := ⟨_, rfl⟩
      obtain ⟨x, hx⟩ : ∃ x, aI k = x := ⟨_, rfl⟩
      rw [hm, hx] at e1
      rw [hM, hx] at e2
      rw [hx] at c1
      rw [hm, hM]
      clear hc
      by_cases q1 : x < m
      · by_cases q2 : M < x
        · go_wp2
          go_roundw
          case rel => exact ⟨k + 1, hlt, by go_num, by rw [e1, min_yes q1], by rw [e2, max_yes q2], trivial⟩
          case measure => simp [intOf]; omega
        · go_wp2
          go_roundw
          case rel => exact ⟨k + 1, hlt, by go_num, by rw [e1, min_yes q1], by rw [e2, max_no q2], trivial⟩
          case measure => simp [intOf]; omega
      · by_cases q2 : M < x
        · go_wp2
          go_roundw
          case rel => exact ⟨k + 1, hlt, by go_num, by rw [e1, min_no q1], by rw [e2, max_yes q2], trivial⟩
          case measure => simp [intOf]; omega
        · go_wp2
          go_roundw
          case rel => exact ⟨k + 1, hlt, by go_num, by rw [e1, min_no q1], by rw [e2, max_no q2], trivial⟩
          case measure => simp [intOf]; omega
    · obtain rfl : k = len := by omega
      rw [HMN.out, HMX.out]
      have hok := HOK.out
      clear HOK
      by_cases q1 : -4611686018427387903 ≤ mn
      · by_cases q2 : mx ≤ 4611686018427387903
        · have wr : IntKind.i64.wrap (mx - mn) = mx - mn := IntWalk.i64_in _ (by omega)
          by_cases q3 : mx - mn < 65536
          · rw [decide_eq_true q1, decide_eq_true q2, decide_eq_true q3] at hok
            simp at hok
            subst hok
            go_wp2
            go_ret3
            exact ⟨rfl, rfl⟩
          · rw [decide_eq_true q1, decide_eq_true q2, decide_eq_false q3] at hok
            simp at hok
            subst hok
            go_wp2
            go_ret3
            exact ⟨rfl, rfl⟩
        · rw [decide_eq_true q1, decide_eq_false q2] at hok
          simp at hok
          subst hok
          go_wp2
          go_ret3
          exact ⟨rfl, rfl⟩
      · rw [decide_eq_false q1] at hok
        simp at hok
        subst hok
        go_wp2
        go_ret3
        exact ⟨rfl, rfl⟩
end Go.Proofs.Qxb6616660a
