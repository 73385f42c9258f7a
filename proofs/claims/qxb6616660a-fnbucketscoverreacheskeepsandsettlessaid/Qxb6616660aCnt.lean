import Derived.Test.Qxb6616660aRows
import Derived.Test.Qxb6616660aPlain
import Derived.WalkKit
import Derived.WalkSpells
import Derived.Deep.QuietTactic
import Derived.BigQuiet
import Derived.Below
import Derived.Laws.BitsAllLaws
namespace Go.Proofs.Qxb6616660a
open Go.RowKit Go.Qm

theorem ret_two {k k' : IntKind} {a b a' b' : Int} (h : a = a') (h' : b = b') : Ending.returned (.tuple #[.int k a, .int k' b]) = .returned (.tuple #[.int k a', .int k' b']) := by rw [h, h']
theorem ret_int {k : IntKind} {a b : Int} (h : a = b) : Ending.returned (.int k a) = .returned (.int k b) := by rw [h]

set_option maxHeartbeats 400000 in
theorem place_any (b o j bl k s : Nat) (w : World) (h3 : 3 ≤ bl) (h6 : bl ≤ 6) (hj : j ≤ 16777216)
    (hc : w.cell? ⟨b, o + 2, none⟩ = some (.int .u8 (bl : Int))) (hk : j / per bl = k) (hs : j % per bl * wid bl = s) :
    Calls Try.prog 31 #[.pointer (some ⟨b, o, none⟩), .int .i64 j] w fun e w' => e = .returned (.tuple #[.int .u64 (k : Int), .int .u64 (s : Int)]) ∧ w' = w := by
  subst hk hs
  obtain ⟨e1, e2⟩ := place_word h3 h6 j
  rw [← e1, ← e2]
  clear e1 e2
  rcases bl_cases h3 h6 with rfl | rfl | rfl | rfl
  all_goals
    go_enter Try.func31, Try.ntmps31
    go_wp2
    go_ret2
    exact ⟨ret_two (by simp) (by simp), rfl⟩

set_option maxHeartbeats 400000 in
theorem len_any (b o n m g bl : Nat) (w : World) (h3 : 3 ≤ bl) (h6 : bl ≤ 6)
    (hc0 : w.cell? ⟨b, o, none⟩ = some (.slice (some ⟨g, 0, none⟩) n n))
    (hc : w.cell? ⟨b, o + 3, none⟩ = some (.int .u8 ((6 - bl : Nat) : Int))) (hn : n ≤ 16777216) (hm : n * per bl = m) :
    Calls Try.prog 25 #[.pointer (some ⟨b, o, none⟩)] w fun e w' => e = .returned (.int .i64 (m : Int)) ∧ ∃ k, w' = w.drewN k := by
  subst hm
  have hb3 : bits BinOp.and IntKind.u8 3 3 = 3 := by decide
  have hb2 : bits BinOp.and IntKind.u8 2 3 = 2 := by decide
  have hb1 : bits BinOp.and IntKind.u8 1 3 = 1 := by decide
  have hb0 : bits BinOp.and IntKind.u8 0 3 = 0 := by decide
  rcases bl_cases h3 h6 with rfl | rfl | rfl | rfl
  all_goals
    go_enter Try.func25, Try.ntmps25
    go_wp2
    go_quiet (fail)
    go_wp2
    go_ret
    exact ⟨ret_int (by simp [per]), _, rfl⟩

set_option maxHeartbeats 400000 in
theorem at_raw (b o j g n k s bl : Nat) (x fu : Int) (w : World) (h3 : 3 ≤ bl) (h6 : bl ≤ 6) (hj : j ≤ 16777216)
    (hc0 : w.cell? ⟨b, o, none⟩ = some (.slice (some ⟨g, 0, none⟩) n n))
    (hc1 : w.cell? ⟨b, o + 1, none⟩ = some (.int .u64 fu))
    (hc2 : w.cell? ⟨b, o + 2, none⟩ = some (.int .u8 (bl : Int)))
    (hx : w.cell? ⟨g, k, none⟩ = some (.int .u64 x))
    (hk : j / per bl = k) (hs : j % per bl * wid bl = s) (hkn : k < n) (_hn : n ≤ 16777216) (hs' : s < 64) :
    Calls Try.prog 26 #[.pointer (some ⟨b, o, none⟩), .int .i64 j] w fun e w' => e = .returned (.int .u64 (bits .and .u64 (x / 2 ^ s) fu)) ∧ ∃ q, w' = w.drewN q := by
  have HP := fun wx h => place_any b o j bl k s wx h3 h6 hj h hk hs
  have HP' : Hid _ := HP
  clear HP hk hs
  go_enter Try.func26, Try.ntmps26
  go_wp2_with (go_at_call 31; refine (HP'.out _ hc2).mono ?_; rintro e w' ⟨rfl, rfl⟩)
  go_quiet (fail)
  go_wp2
  go_ret
  exact ⟨rfl, _, rfl⟩

theorem info25 : (Try.prog.info? 25).map (fun i => (i.zero, i.size, i.bytes)) = some (some (.int .u64 0), 1, 8) := by kernel_rfl

theorem make_shut (w : World) (m : Nat) (x y : Array Value) (T U : TypeId) : Blk (((w.alloc (.cells x T)).alloc (.cells y U)).alloc (.cells (Zr (.int .u64 0) m) 25)) (w.heap.size + 1 + 1) (W64 (List.replicate m 0)) 25 ∧ Upd [] w (((w.alloc (.cells x T)).alloc (.cells y U)).alloc (.cells (Zr (.int .u64 0) m) 25)) := by
  refine ⟨?_, ((Upd.alloc _ _ _).trans (Upd.alloc _ _ _)).trans (Upd.alloc _ _ _)⟩
  have := Blk.new ((w.alloc (.cells x T)).alloc (.cells y U)) (W64 (List.replicate m 0)) 25
  rw [← Zr_u64] at this
  simpa using this

set_option maxHeartbeats 400000 in
theorem make_any (n m bl : Nat) (w : World) (h3 : 3 ≤ bl) (h6 : bl ≤ 6) (hn : n ≤ 16777216) (hm : (n + per bl - 1) / per bl = m) :
    Calls Try.prog 24 #[.int .i64 n, .int .u8 bl] w fun e w' => ∃ g, w.heap.size ≤ g ∧ e = .returned (.agg #[.slice (some ⟨g, 0, none⟩) m m, .int .u64 (full bl : Nat), .int .u8 bl, .int .u8 (6 - bl : Nat)]) ∧ Blk w' g (W64 (List.replicate m 0)) 25 ∧ Upd [] w w' := by
  obtain ⟨i0, hi, hz0, hz1, hz2⟩ := info_parts info25
  rcases bl_cases h3 h6 with rfl | rfl | rfl | rfl
  · have hm' : m ≤ 16777216 := by have := hm; simp [per] at this; omega
    have HM : Hid (((n : Int) + 8 - 1) / 8 = (m : Int)) := by have := hm; simp [per] at this; show _ = _; omega
    clear hm
    go_enter Try.func24, Try.ntmps24
    go_wp2_with (at_make; refine wpList_make_zero _ rfl (.tmp 23) (.tmp 23) 34 rfl 25 i0 (.int .u64 0) Try.underlying34 hi hz0 hz1 rfl .i64 .i64 _ _ m rfl rfl (by have := HM.out; omega) (by have := HM.out; omega) (by rw [hz2]; omega) (by omega) ?_)
    obtain ⟨q1, q2⟩ := make_shut w m #[Value.slice (some ⟨w.heap.size + 1 + 1, 0, none⟩) m m, Value.int IntKind.u64 255, Value.int IntKind.u8 3, Value.int IntKind.u8 3] #[Value.slice (some ⟨w.heap.size + 1 + 1, 0, none⟩) m m, Value.int IntKind.u64 255, Value.int IntKind.u8 3, Value.int IntKind.u8 3] 50 50
    exact bodyPost_ret (v := .agg #[.slice (some ⟨w.heap.size + 1 + 1, 0, none⟩) m m, .int .u64 255, .int .u8 3, .int .u8 3]) (by simp [results, Try.results24, go_sem]) rfl ⟨_, by omega, rfl, q1, q2⟩
  · have hm' : m ≤ 16777216 := by have := hm; simp [per] at this; omega
    have HM : Hid (((n : Int) + 4 - 1) / 4 = (m : Int)) := by have := hm; simp [per] at this; show _ = _; omega
    clear hm
    go_enter Try.func24, Try.ntmps24
    go_wp2_with (at_make; refine wpList_make_zero _ rfl (.tmp 23) (.tmp 23) 34 rfl 25 i0 (.int .u64 0) Try.underlying34 hi hz0 hz1 rfl .i64 .i64 _ _ m rfl rfl (by have := HM.out; omega) (by have := HM.out; omega) (by rw [hz2]; omega) (by omega) ?_)
    obtain ⟨q1, q2⟩ := make_shut w m #[Value.slice (some ⟨w.heap.size + 1 + 1, 0, none⟩) m m, Value.int IntKind.u64 65535, Value.int IntKind.u8 4, Value.int IntKind.u8 2] #[Value.slice (some ⟨w.heap.size + 1 + 1, 0, none⟩) m m, Value.int IntKind.u64 65535, Value.int IntKind.u8 4, Value.int IntKind.u8 2] 50 50
    exact bodyPost_ret (v := .agg #[.slice (some ⟨w.heap.size + 1 + 1, 0, none⟩) m m, .int .u64 65535, .int .u8 4, .int .u8 2]) (by simp [results, Try.results24, go_sem]) rfl ⟨_, by omega, rfl, q1, q2⟩
  · have hm' : m ≤ 16777216 := by have := hm; simp [per] at this; omega
    have HM : Hid (((n : Int) + 2 - 1) / 2 = (m : Int)) := by have := hm; simp [per] at this; show _ = _; omega
    clear hm
    go_enter Try.func24, Try.ntmps24
    go_wp2_with (at_make; refine wpList_make_zero _ rfl (.tmp 23) (.tmp 23) 34 rfl 25 i0 (.int .u64 0) Try.underlying34 hi hz0 hz1 rfl .i64 .i64 _ _ m rfl rfl (by have := HM.out; omega) (by have := HM.out; omega) (by rw [hz2]; omega) (by omega) ?_)
    obtain ⟨q1, q2⟩ := make_shut w m #[Value.slice (some ⟨w.heap.size + 1 + 1, 0, none⟩) m m, Value.int IntKind.u64 4294967295, Value.int IntKind.u8 5, Value.int IntKind.u8 1] #[Value.slice (some ⟨w.heap.size + 1 + 1, 0, none⟩) m m, Value.int IntKind.u64 4294967295, Value.int IntKind.u8 5, Value.int IntKind.u8 1] 50 50
    exact bodyPost_ret (v := .agg #[.slice (some ⟨w.heap.size + 1 + 1, 0, none⟩) m m, .int .u64 4294967295, .int .u8 5, .int .u8 1]) (by simp [results, Try.results24, go_sem]) rfl ⟨_, by omega, rfl, q1, q2⟩
  · have hm' : m ≤ 16777216 := by have := hm; simp [per] at this; omega
    have HM : Hid (((n : Int) + 1 - 1) / 1 = (m : Int)) := by have := hm; simp [per] at this; show _ = _; omega
    clear hm
    go_enter Try.func24, Try.ntmps24
    go_wp2_with (at_make; refine wpList_make_zero _ rfl (.tmp 23) (.tmp 23) 34 rfl 25 i0 (.int .u64 0) Try.underlying34 hi hz0 hz1 rfl .i64 .i64 _ _ m rfl rfl (by have := HM.out; omega) (by have := HM.out; omega) (by rw [hz2]; omega) (by omega) ?_)
    obtain ⟨q1, q2⟩ := make_shut w m #[Value.slice (some ⟨w.heap.size + 1 + 1, 0, none⟩) m m, Value.int IntKind.u64 18446744073709551615, Value.int IntKind.u8 6, Value.int IntKind.u8 0] #[Value.slice (some ⟨w.heap.size + 1 + 1, 0, none⟩) m m, Value.int IntKind.u64 18446744073709551615, Value.int IntKind.u8 6, Value.int IntKind.u8 0] 50 50
    exact bodyPost_ret (v := .agg #[.slice (some ⟨w.heap.size + 1 + 1, 0, none⟩) m m, .int .u64 18446744073709551615, .int .u8 6, .int .u8 0]) (by simp [results, Try.results24, go_sem]) rfl ⟨_, by omega, rfl, q1, q2⟩

/-- The four cells of a 'counters' over the block g of n words, in fields of 2^bl bits. -/
def cn4 (g n bl : Nat) : List Value := [.slice (some ⟨g, 0, none⟩) n n, .int .u64 ((full bl : Nat) : Int), .int .u8 (bl : Int), .int .u8 ((6 - bl : Nat) : Int)]

/-- A 'counters' lies in block b behind the cells 'pre'. -/
structure Cn (w : World) (b : Nat) (pre post : List Value) (T : TypeId) (g : Nat) (ws : List Nat) (bl : Nat) : Prop where
  blk : Blk w b (pre ++ cn4 g ws.length bl ++ post) T
  row : Blk w g (W64 ws) 25
  h3 : 3 ≤ bl
  h6 : bl ≤ 6
  lt : ∀ x ∈ ws, x < 18446744073709551616
  len : ws.length ≤ 2097152
  ne : b ≠ g

section
variable {w : World} {b : Nat} {pre post : List Value} {T : TypeId} {g : Nat} {ws : List Nat} {bl : Nat}

theorem Cn.c0 (h : Cn w b pre post T g ws bl) : w.cell? ⟨b, pre.length, none⟩ = some (.slice (some ⟨g, 0, none⟩) ws.length ws.length) :=
  h.blk.cellv (by simp [cn4])
theorem Cn.c1 (h : Cn w b pre post T g ws bl) : w.cell? ⟨b, pre.length + 1, none⟩ = some (.int .u64 ((full bl : Nat) : Int)) :=
  h.blk.cellv (by simp [cn4])
theorem Cn.c2 (h : Cn w b pre post T g ws bl) : w.cell? ⟨b, pre.length + 2, none⟩ = some (.int .u8 (bl : Int)) :=
  h.blk.cellv (by simp [cn4])
theorem Cn.c3 (h : Cn w b pre post T g ws bl) : w.cell? ⟨b, pre.length + 3, none⟩ = some (.int .u8 ((6 - bl : Nat) : Int)) :=
  h.blk.cellv (by simp [cn4])
theorem Cn.drewN (h : Cn w b pre post T g ws bl) (q : Nat) : Cn (w.drewN q) b pre post T g ws bl := ⟨h.blk.drewN q, h.row.drewN q, h.h3, h.h6, h.lt, h.len, h.ne⟩
theorem Cn.alloc (h : Cn w b pre post T g ws bl) (o : Obj) : Cn (w.alloc o) b pre post T g ws bl := ⟨h.blk.alloc o, h.row.alloc o, h.h3, h.h6, h.lt, h.len, h.ne⟩
theorem Cn.upd {w' : World} {S : List Nat} (h : Cn w b pre post T g ws bl) (hu : Upd S w w') (h1 : b ∉ S) (h2 : g ∉ S) : Cn w' b pre post T g ws bl := ⟨hu.blk h.blk h1, hu.blk h.row h2, h.h3, h.h6, h.lt, h.len, h.ne⟩
theorem Cn.word (h : Cn w b pre post T g ws bl) {k : Nat} (hk : k < ws.length) : w.cell? ⟨g, k, none⟩ = some (.int .u64 ((ws.getD k 0 : Nat) : Int)) :=
  h.row.cellv (W64_get ws k hk)
end

theorem getD_lt {ws : List Nat} (h : ∀ x ∈ ws, x < 18446744073709551616) (k : Nat) : ws.getD k 0 < 18446744073709551616 := by
  by_cases hk : k < ws.length
  · have : ws.getD k 0 = ws[k] := by simp [List.getD, hk]
    rw [this]; exact h _ (List.getElem_mem hk)
  · have : ws.getD k 0 = 0 := by simp [List.getD, show ws.length ≤ k by omega]
    rw [this]; decide

theorem full_lt {bl : Nat} (h3 : 3 ≤ bl) (h6 : bl ≤ 6) : full bl < 18446744073709551616 := by
  rcases bl_cases h3 h6 with rfl | rfl | rfl | rfl <;> decide

theorem fld_bits {bl X s : Nat} (h3 : 3 ≤ bl) (h6 : bl ≤ 6) (hX : X < 18446744073709551616) :
    bits .and .u64 ((X : Int) / 2 ^ s) ((full bl : Nat) : Int) = ((X / 2 ^ s % 2 ^ wid bl : Nat) : Int) := by
  have e : ((X : Int) / 2 ^ s) = ((X / 2 ^ s : Nat) : Int) := by simp
  have hlt : X / 2 ^ s < 18446744073709551616 := Nat.lt_of_le_of_lt (Nat.div_le_self _ _) hX
  rw [e, u64_and_nat _ _ hlt (full_lt h3 h6)]
  congr 1
  exact Nat.and_two_pow_sub_one_eq_mod _ _

theorem at_any {w : World} {b : Nat} {pre post : List Value} {T : TypeId} {g : Nat} {ws : List Nat} {bl : Nat} (h : Cn w b pre post T g ws bl) (o : Nat) (ho : pre.length = o) (j : Nat) (hj : j < ws.length * per bl) :
    Calls Try.prog 26 #[.pointer (some ⟨b, o, none⟩), .int .i64 (j : Int)] w fun e w' => e = .returned (.int .u64 ((fld bl ws j : Nat) : Int)) ∧ ∃ q, w' = w.drewN q := by
  subst ho
  have hlen := h.len
  have hp := per_le h.h3 h.h6
  have hk : j / per bl < ws.length := by rw [Nat.div_lt_iff_lt_mul (per_pos bl)]; exact hj
  have hj2 : j ≤ 16777216 := by
    have : ws.length * per bl ≤ 2097152 * 8 := Nat.mul_le_mul hlen hp
    omega
  have hs : j % per bl * wid bl < 64 := by have := shift_le (j := j) h.h6; have := wid_pos bl; omega
  have e := fld_bits (s := j % per bl * wid bl) h.h3 h.h6 (getD_lt h.lt (j / per bl))
  refine (at_raw b pre.length j g ws.length (j / per bl) (j % per bl * wid bl) bl _ _ w h.h3 h.h6 hj2 h.c0 h.c1 h.c2 (h.word hk) rfl rfl hk (by omega) hs).mono ?_
  rintro e' w' ⟨rfl, hw⟩
  exact ⟨ret_int e, hw⟩

theorem len_cn {w : World} {b : Nat} {pre post : List Value} {T : TypeId} {g : Nat} {ws : List Nat} {bl : Nat} (h : Cn w b pre post T g ws bl) (o : Nat) (ho : pre.length = o) (m : Nat) (hm : ws.length * per bl = m) :
    Calls Try.prog 25 #[.pointer (some ⟨b, o, none⟩)] w fun e w' => e = .returned (.int .i64 (m : Int)) ∧ ∃ k, w' = w.drewN k := by
  subst ho
  exact len_any b pre.length ws.length m g bl w h.h3 h.h6 h.c0 h.c3 (by have := h.len; omega) hm
end Go.Proofs.Qxb6616660a
