import Derived.Test.Qxb6616660aAddWords
namespace Go.Proofs.Qxb6616660a
open Go.RowKit Go.Qm

set_option maxRecDepth 100000 in
set_option maxHeartbeats 1000000 in
theorem addAll_slow {w : World} {bc gc bo : Nat} {pre post : List Value} {T : TypeId} {g : Nat} {ws : List Nat} {bl bl' m : Nat} (o : Nat) (ho : pre.length = o)
    (hc : Cn w bc [] [] 50 gc (List.replicate m 0) bl') (h : Cn w bo pre post T g ws bl) (hbl : bl < bl') (hm : m * per bl' = ws.length * per bl) (n1 : gc ≠ g) (n2 : gc ≠ bo) (L : Nat) (hL : ws.length * per bl = L) (hL0 : 0 < L) :
    Calls Try.prog 35 #[.pointer (some ⟨bc, 0, none⟩), .pointer (some ⟨bo, o, none⟩), .int .i64 0, .int .i64 0, .int .i64 (L : Int)] w
      fun e w' => (∃ f : Int, e = .returned (.int .i64 f)) ∧ Blk w' gc (W64 (widened bl ws bl' m)) 25 ∧ Upd [gc] w w' := by
  have c2 : w.cell? ⟨bc, 2, none⟩ = some (.int .u8 (bl' : Int)) := hc.c2
  have c3 : w.cell? ⟨bc, 3, none⟩ = some (.int .u8 ((6 - bl' : Nat) : Int)) := hc.c3
  have o2 : w.cell? ⟨bo, o + 2, none⟩ = some (.int .u8 (bl : Int)) := by subst ho; exact h.c2
  have h6 := hc.h6
  have h3 := hc.h3
  have hlen := h.len
  have hp := per_le h.h3 h.h6
  have hLb : L ≤ 16777216 := by
    have : ws.length * per bl ≤ 2097152 * 8 := Nat.mul_le_mul hlen hp
    omega
  have hz : bits BinOp.andNot IntKind.i64 0 (2 ^ (6 - bl') - 1) = 0 := by
    rcases bl_cases h3 h6 with rfl | rfl | rfl | rfl <;> decide
  have e2 : (2 : Int) ^ (6 - bl') ≤ 8 ∧ (0 : Int) ≤ 2 ^ (6 - bl') := by
    rcases bl_cases h3 h6 with rfl | rfl | rfl | rfl <;> decide
  obtain ⟨pl, hpl⟩ : ∃ pl, 6 - bl' = pl := ⟨_, rfl⟩
  rw [hpl] at c3 hz e2
  obtain ⟨e2a, e2b⟩ := e2
  have HA := hid fun wx e => addWords_slow o ho (Cn_heap (w' := wx) hc e) (Cn_heap h e) hbl hm n1 n2 L hL
  have hmin : min pl 64 = pl := by omega
  have hnw : decide ((bl' : Int) < (bl : Int)) = false := by simp; omega
  have hnw' : decide (bl' < bl) = false := by simp; omega
  clear hpl hc h hm hL ho
  go_enter Try.func35, Try.ntmps35
  go_wp2
  go_quiet (fail)
  go_wp2
  go_loopw [10, 12] (fun f i wr => (∃ F : Int, f = .int .i64 F) ∧ ((i = .int .i64 0 ∧ Hid (wr.heap = w.heap) ∧ Upd [gc] w wr) ∨ (i = .int .i64 (L : Int) ∧ Blk wr gc (W64 (widened bl ws bl' m)) 25 ∧ Upd [gc] w wr))) (fun _ i _ => L - (intOf i).toNat)
  case atStart => exact ⟨⟨0, rfl⟩, Or.inl ⟨rfl, hid rfl, Upd.drewN _ _ _⟩⟩
  case round =>
    obtain ⟨⟨F, rfl⟩, hst⟩ := hrel
    rcases hst with ⟨rfl, hh, hu⟩ | ⟨rfl, hrow, hu⟩
    · go_wp2_with (go_at_call 41; refine (HA.out _ hh.out).mono ?_; rintro e w1 ⟨⟨f1, rfl⟩, hrow1, hu1⟩)
      go_roundw
      case rel => exact ⟨⟨_, rfl⟩, Or.inr ⟨rfl, hrow1, hu.trans hu1⟩⟩
      case measure => simp [intOf]; omega
    · go_wp2
      go_ret
      exact ⟨⟨F, rfl⟩, hrow, hu⟩

theorem widen_words {bl bl' n L m : Nat} (h3 : 3 ≤ bl) (hbl : bl < bl') (h6 : bl' ≤ 6) (hL : n * per bl = L) (hm : (L + per bl' - 1) / per bl' = m) : m * per bl' = L := by
  subst hm hL
  rcases bl_cases h3 (by omega : bl ≤ 6) with rfl | rfl | rfl | rfl <;> rcases bl_cases (by omega : 3 ≤ bl') h6 with rfl | rfl | rfl | rfl <;> simp [per] at * <;> omega

theorem set4 (pre post : List Value) (a b c d a' b' c' d' : Value) :
    ((((pre ++ [a, b, c, d] ++ post).set pre.length a').set (pre.length + 1) b').set (pre.length + 2) c').set (pre.length + 3) d' = pre ++ [a', b', c', d'] ++ post := by
  simp

theorem store4 {w : World} {b : Nat} {pre post : List Value} {T : TypeId} {g n bl : Nat} (h : Blk w b (pre ++ cn4 g n bl ++ post) T) (x0 x1 x2 x3 : Value) :
    Blk ((((w.setCell ⟨b, pre.length, none⟩ x0).setCell ⟨b, pre.length + 1, none⟩ x1).setCell ⟨b, pre.length + 2, none⟩ x2).setCell ⟨b, pre.length + 3, none⟩ x3) b (pre ++ [x0, x1, x2, x3] ++ post) T ∧
    (∀ b' cs T', Blk w b' cs T' → b' ≠ b → Blk ((((w.setCell ⟨b, pre.length, none⟩ x0).setCell ⟨b, pre.length + 1, none⟩ x1).setCell ⟨b, pre.length + 2, none⟩ x2).setCell ⟨b, pre.length + 3, none⟩ x3) b' cs T') ∧
    Upd [b] w ((((w.setCell ⟨b, pre.length, none⟩ x0).setCell ⟨b, pre.length + 1, none⟩ x1).setCell ⟨b, pre.length + 2, none⟩ x2).setCell ⟨b, pre.length + 3, none⟩ x3) := by
  refine ⟨?_, fun b' cs T' hb hne => (((hb.set_other _ hne).set_other _ hne).set_other _ hne).set_other _ hne, (((Upd.setCell w (Or.inl (by simp)) _).trans (Upd.setCell _ (Or.inl (by simp)) _)).trans (Upd.setCell _ (Or.inl (by simp)) _)).trans (Upd.setCell _ (Or.inl (by simp)) _)⟩
  have := (((h.set pre.length x0).set (pre.length + 1) x1).set (pre.length + 2) x2).set (pre.length + 3) x3
  unfold cn4 at this
  rw [set4] at this
  exact this

theorem widened_lt {bl bl' : Nat} (h : bl ≤ bl') (h6 : bl' ≤ 6) (ws : List Nat) (m : Nat) : ∀ x ∈ widened bl ws bl' m, x < 18446744073709551616 := by
  intro x hx
  obtain ⟨t, _, rfl⟩ := List.mem_map.1 hx
  exact wAs_lt h h6 _ _
theorem widened_len (bl : Nat) (ws : List Nat) (bl' m : Nat) : (widened bl ws bl' m).length = m := by simp [widened]

set_option maxRecDepth 100000 in
set_option maxHeartbeats 1000000 in
theorem widen_any {w : World} {b : Nat} {pre post : List Value} {T : TypeId} {g : Nat} {ws : List Nat} {bl : Nat} (h : Cn w b pre post T g ws bl) (o : Nat) (ho : pre.length = o) (bl' : Nat) (hbl : bl < bl') (h6 : bl' ≤ 6) (L : Nat) (hL : ws.length * per bl = L) (hL0 : 0 < L) (hLm : L ≤ 2097152) :
    Calls Try.prog 32 #[.pointer (some ⟨b, o, none⟩), .int .u8 (bl' : Int)] w
      fun e w' => e = .returned (.tuple #[]) ∧ ∃ gc m, m * per bl' = L ∧ w.heap.size ≤ gc ∧ Cn w' b pre post T gc (widened bl ws bl' m) bl' ∧ Upd [b] w w' := by
  obtain ⟨m, hm⟩ : ∃ m, (L + per bl' - 1) / per bl' = m := ⟨_, rfl⟩
  have h3 := h.h3
  have hml := widen_words h3 hbl h6 hL hm
  have hmn := words_le (by omega : 3 ≤ bl') h6 hm
  have HL := hid fun wx e => len_cn (Cn_heap (w' := wx) h e) o ho L hL
  have HM := hid fun wx => make_any L m bl' wx (by omega) h6 (by omega) hm
  have HC := hid h
  have HO := hid ho
  have HLL := hid hL
  have HML := hid hml
  clear h ho hL hm hml
  go_enter Try.func32, Try.ntmps32
  go_wp2_with (first | (go_at_call 25; refine (HL.out _ (by rfl)).mono ?_; rintro e w1 ⟨rfl, q1, rfl⟩) | (go_at_call 24; refine (HM.out _).mono ?_; rintro e w2 ⟨gc, hgc, rfl, hrow, hu⟩))
  have hbl' : 3 ≤ bl' := by omega
  have hgcw2 := hrow.lt
  obtain ⟨W3, hW3⟩ : ∃ W, w2.alloc (.cells #[.slice (some ⟨gc, 0, none⟩) m m, .int .u64 ((full bl' : Nat) : Int), .int .u8 (bl' : Int), .int .u8 ((6 - bl' : Nat) : Int)] 50) = W := ⟨_, rfl⟩
  obtain ⟨bn, hbn⟩ : ∃ bn, w2.heap.size = bn := ⟨_, rfl⟩
  rw [hW3]
  have hu' : Upd [] w w2 := (Upd.drewN _ _ q1).trans hu
  have HCN : Hid (Cn W3 bn [] [] 50 gc (List.replicate m 0) bl') := by
    rw [← hW3, ← hbn]
    refine hid ⟨?_, hrow.alloc _, hbl', h6, replicate_lt m, by simp; omega, by omega⟩
    have := Blk.new' w2 #[.slice (some ⟨gc, 0, none⟩) m m, .int .u64 ((full bl' : Nat) : Int), .int .u8 (bl' : Int), .int .u8 ((6 - bl' : Nat) : Int)] 50
    simpa [cn4] using this
  have HO3 : Hid (Cn W3 b pre post T g ws bl) := by rw [← hW3]; exact hid ((HC.out.upd hu' (by simp) (by simp)).alloc _)
  have HU3 : Hid (Upd [] w W3) := by rw [← hW3]; exact hid (hu'.trans (Upd.alloc _ _ _))
  have hbw := HC.out.blk.lt
  have hgw := HC.out.row.lt
  have hgc' : w.heap.size ≤ gc := hgc
  have hbn' : w.heap.size ≤ bn := by rw [← hbn]; exact hu'.size
  clear hW3 hu hrow
  refine (len_cn HO3.out o HO.out L HLL.out).mono ?_
  rintro e w4 ⟨rfl, q2, rfl⟩
  go_wp2_with fail
  refine (addAll_slow o HO.out (HCN.out.drewN q2) (HO3.out.drewN q2) hbl (HML.out.trans HLL.out.symm) (by omega) (by omega) L HLL.out hL0).mono ?_
  rintro e w5 ⟨⟨f, rfl⟩, hrow5, hu5⟩
  have hbnb : bn ≠ b := by omega
  have B5 := hu5.blk (HCN.out.drewN q2).blk (by have := HCN.out.ne; simp; omega)
  have C5 := hu5.blk (HO3.out.drewN q2).blk (by simp; omega)
  have l0 : w5.cell? ⟨bn, 0, none⟩ = some (.slice (some ⟨gc, 0, none⟩) m m) := by have := B5.cellv (i := 0) (v := .slice (some ⟨gc, 0, none⟩) m m) (by simp [cn4]); exact this
  have l1 : w5.cell? ⟨bn, 1, none⟩ = some (.int .u64 ((full bl' : Nat) : Int)) := B5.cellv rfl
  have l2 : w5.cell? ⟨bn, 2, none⟩ = some (.int .u8 (bl' : Int)) := B5.cellv rfl
  have l3 : w5.cell? ⟨bn, 3, none⟩ = some (.int .u8 ((6 - bl' : Nat) : Int)) := B5.cellv rfl
  have s0 : w5.cell? ⟨b, o, none⟩ = some (.slice (some ⟨g, 0, none⟩) ws.length ws.length) := by rw [← HO.out]; exact C5.cellv (by simp [cn4])
  have s1 : w5.cell? ⟨b, o + 1, none⟩ = some (.int .u64 ((full bl : Nat) : Int)) := by rw [← HO.out]; exact C5.cellv (by simp [cn4])
  have s2 : w5.cell? ⟨b, o + 2, none⟩ = some (.int .u8 (bl : Int)) := by rw [← HO.out]; exact C5.cellv (by simp [cn4])
  have s3 : w5.cell? ⟨b, o + 3, none⟩ = some (.int .u8 ((6 - bl : Nat) : Int)) := by rw [← HO.out]; exact C5.cellv (by simp [cn4])
  have z0 := C5.frozen o
  have z1 := C5.frozen (o + 1)
  have z2 := C5.frozen (o + 2)
  have z3 := C5.frozen (o + 3)
  have HC5 := hid C5
  have HR5 := hid hrow5
  have HU5 := hid hu5
  clear B5 C5 hrow5 hu5
  go_wp2
  go_end0
  have hst := store4 HC5.out (.slice (some ⟨gc, 0, none⟩) m m) (.int .u64 ((full bl' : Nat) : Int)) (.int .u8 (bl' : Int)) (.int .u8 ((6 - bl' : Nat) : Int))
  rw [HO.out] at hst
  obtain ⟨k1, k2, k3⟩ := hst
  refine ⟨rfl, gc, m, HML.out, hgc', ⟨?_, k2 gc _ _ HR5.out (by omega), hbl', h6, widened_lt (by omega) h6 ws m, by rw [widened_len]; omega, by omega⟩, ?_⟩
  · rw [widened_len]; exact k1
  · have hu1 : Upd [b] w w5 := (((HU3.out.mono (by simp)).trans (Upd.drewN _ _ q2)).trans' HU5.out (by simp; omega))
    exact hu1.trans k3
end Go.Proofs.Qxb6616660a
