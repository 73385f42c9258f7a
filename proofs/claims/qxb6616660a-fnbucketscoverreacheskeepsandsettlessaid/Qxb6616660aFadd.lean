import Derived.Test.Qxb6616660aFields
namespace Go.Proofs.Qxb6616660a
open Go.RowKit Go.Qm

theorem andNot_le (a b : Int) (t : Nat) (ht : t < 18446744073709551616) (ha0 : 0 ≤ a) (ha : a ≤ (t : Int)) (hb0 : 0 ≤ b) (hb : b ≤ (t : Int)) : 0 ≤ bits .andNot .u64 a b ∧ bits .andNot .u64 a b ≤ (t : Int) := by
  obtain ⟨A, rfl⟩ := Int.eq_ofNat_of_zero_le ha0
  obtain ⟨B, rfl⟩ := Int.eq_ofNat_of_zero_le hb0
  rw [u64_andNot_nat A B (by omega) (by omega)]
  have : A &&& (18446744073709551615 - B) ≤ A := Nat.and_le_left
  omega

theorem alloc3_shut {w : World} {g o : Nat} {ws : List Nat} {y : Nat} (hrow : Blk w g (W64 ws) 25) (b1 b2 b3 : Array Value) (q : Nat) :
    Blk (((((w.setCell ⟨g, o, none⟩ (.int .u64 (y : Int))).alloc (.cells b1 73)).alloc (.cells b2 73)).alloc (.cells b3 73)).drewN q) g (W64 (ws.set o y)) 25 ∧
    Upd [g] w (((((w.setCell ⟨g, o, none⟩ (.int .u64 (y : Int))).alloc (.cells b1 73)).alloc (.cells b2 73)).alloc (.cells b3 73)).drewN q) := by
  refine ⟨?_, ((((Upd.setCell w (Or.inl (by simp)) _).trans (Upd.alloc _ _ _)).trans (Upd.alloc _ _ _)).trans (Upd.alloc _ _ _)).trans (Upd.drewN _ _ _)⟩
  have := hrow.set o (.int .u64 (y : Int))
  rw [W64_set] at this
  exact (((this.alloc _).alloc _).alloc _).drewN q

set_option maxHeartbeats 1000000 in
theorem fadd_raw (bo to dn up y t g o n c : Nat) (ws : List Nat) (w : World) (hbo : bo < 18446744073709551616) (hto : to < 18446744073709551616) (hy : y < 18446744073709551616) (htn : t < n) (_hn : n ≤ 16777216)
    (hrow : Blk w g (W64 ws) 25) (hot : o + t < ws.length) (hz : ws.getD (o + t) 0 = 0) :
    Calls Try.prog 45 #[.agg #[.int .u64 (bo : Int), .int .u64 (to : Int), .int .u64 (dn : Int), .int .u64 (up : Int)], .slice (some ⟨g, o, none⟩) n c, .int .i64 (t : Int), .int .u64 (y : Int)] w
      fun e w' => (∃ r : Int, 0 ≤ r ∧ r ≤ to ∧ e = .returned (.int .u64 r)) ∧ Blk w' g (W64 (ws.set (o + t) y)) 25 ∧ Upd [g] w w' := by
  have hx : w.cell? ⟨g, o + t, none⟩ = some (.int .u64 0) := by
    have := hrow.cellv (W64_get ws (o + t) hot)
    rw [hz] at this; exact this
  have hf := hrow.frozen (o + t)
  have hlt := World.block_lt_of_cell? w _ hx
  have x1 : bits BinOp.xor IntKind.u64 0 (y : Int) = (y : Int) := by
    have := u64_xor_nat 0 y (by omega) hy
    simpa using this
  have x2 : bits BinOp.xor IntKind.u64 (y : Int) (y : Int) = 0 := by
    have := u64_xor_nat y y hy hy
    simpa using this
  have x3 : bits BinOp.and IntKind.u64 0 (bo : Int) = 0 := by
    have := u64_and_nat 0 bo (by omega) hbo
    simpa using this
  have S3 := hid fun b1 b2 b3 q => alloc3_shut (y := y) (o := o + t) hrow b1 b2 b3 q
  clear hz hot
  go_enter Try.func45, Try.ntmps45
  go_wp2
  go_region_held3 (fun w' => w'.cell? ⟨w.heap.size, 0, none⟩ = some (.int .u64 (bo : Int)) ∧ w'.cell? ⟨w.heap.size, 1, none⟩ = some (.int .u64 (to : Int)) ∧ w'.cell? ⟨w.heap.size, 2, none⟩ = some (.int .u64 (dn : Int)) ∧ w'.cell? ⟨w.heap.size, 3, none⟩ = some (.int .u64 (up : Int))) (simp [go_sem, World.cell?_alloc_past])
    (first
      | (go_at_call 49; refine (nonZero_any bo to dn up _ _ hto).mono ?_; rintro e w' ⟨⟨r, hr0, hr1, rfl⟩, o1, rfl⟩))
  go_wp2
  go_ret
  obtain ⟨q1, q2⟩ := S3.out _ _ _ 1
  refine ⟨⟨_, ?_, ?_, rfl⟩, q1, q2⟩
  · exact (andNot_le _ _ to hto (by assumption) (by assumption) (by assumption) (by assumption)).1
  · exact (andNot_le _ _ to hto (by assumption) (by assumption) (by assumption) (by assumption)).2

theorem fadd_any (bl y t g o n c : Nat) (ws : List Nat) (w : World) (h3 : 3 ≤ bl) (h6 : bl ≤ 6) (hy : y < 18446744073709551616) (htn : t < n) (hn : n ≤ 16777216)
    (hrow : Blk w g (W64 ws) 25) (hot : o + t < ws.length) (hz : ws.getD (o + t) 0 = 0) :
    Calls Try.prog 45 #[.agg #[.int .u64 ((fbot bl : Nat) : Int), .int .u64 ((ftop bl : Nat) : Int), .int .u64 ((fdn bl : Nat) : Int), .int .u64 ((fup bl : Nat) : Int)], .slice (some ⟨g, o, none⟩) n c, .int .i64 (t : Int), .int .u64 (y : Int)] w
      fun e w' => (∃ r : Int, e = .returned (.int .u64 r) ∧ 0 ≤ r ∧ r < 18446744073709551615) ∧ Blk w' g (W64 (ws.set (o + t) y)) 25 ∧ Upd [g] w w' := by
  have ht := ftop_lt h3 h6
  have hb : fbot bl < 18446744073709551616 := by unfold fbot; have := Nat.div_le_self 18446744073709551615 (full bl); omega
  refine (fadd_raw (fbot bl) (ftop bl) (fdn bl) (fup bl) y t g o n c ws w hb (by omega) hy htn hn hrow hot hz).mono ?_
  rintro e w' ⟨⟨r, h0, h1, rfl⟩, q1, q2⟩
  exact ⟨⟨r, rfl, h0, by omega⟩, q1, q2⟩

theorem fcount_any (bl : Nat) (y : Int) (w : World) (h3 : 3 ≤ bl) (h6 : bl ≤ 6) :
    Calls Try.prog 46 #[.agg #[.int .u64 ((fbot bl : Nat) : Int), .int .u64 ((ftop bl : Nat) : Int), .int .u64 ((fdn bl : Nat) : Int), .int .u64 ((fup bl : Nat) : Int)], .int .u64 y] w fun e w' => (∃ r : Int, e = .returned (.int .i64 r)) ∧ Upd [] w w' := by
  obtain ⟨h1, h2⟩ := fdn_le h3 h6
  refine (count_any (fbot bl) (ftop bl) (fdn bl) (fup bl) y w h1 h2).mono ?_
  rintro e w' ⟨⟨r, rfl⟩, c, rfl⟩
  exact ⟨⟨r, rfl⟩, Upd.alloc _ _ _⟩
end Go.Proofs.Qxb6616660a
