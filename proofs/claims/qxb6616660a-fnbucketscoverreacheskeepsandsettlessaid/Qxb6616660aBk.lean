import Derived.Test.Qxb6616660aAddAll
import Derived.Test.Qxb6616660aAdd
namespace Go.Proofs.Qxb6616660a
open Go.RowKit Go.Qm

/-- A run of buckets in block b: bucket i reads cnt i over the whole room L from 'off' on. -/
structure Bk (w : World) (b : Nat) (off lo hi fi : Int) (L : Nat) (cnt : Int → Nat) (g : Nat) (ws : List Nat) (bl : Nat) : Prop where
  cn : Cn w b [.int .i64 off] [.int .i64 lo, .int .i64 hi, .int .i64 fi] 56 g ws bl
  len : ws.length * per bl = L
  rd : ∀ i : Int, off ≤ i → i < off + L → fld bl ws (i - off).toNat = cnt i
  zero : ∀ i : Int, i < lo ∨ hi < i → cnt i = 0
  olo : off ≤ lo
  lh : lo ≤ hi
  hiL : hi < off + L
  mod : off % 8 = 0
  Lm : L ≤ 200000
  wl : -4611686018427387904 ≤ lo
  wh : hi ≤ 4611686018427387904

section
variable {w : World} {b : Nat} {off lo hi fi : Int} {L : Nat} {cnt : Int → Nat} {g : Nat} {ws : List Nat} {bl : Nat}
theorem Bk.blk8 (h : Bk w b off lo hi fi L cnt g ws bl) : Blk w b [.int .i64 off, .slice (some ⟨g, 0, none⟩) ws.length ws.length, .int .u64 ((full bl : Nat) : Int), .int .u8 (bl : Int), .int .u8 ((6 - bl : Nat) : Int), .int .i64 lo, .int .i64 hi, .int .i64 fi] 56 := h.cn.blk
theorem Bk.heap {w' : World} (h : Bk w b off lo hi fi L cnt g ws bl) (e : w'.heap = w.heap) : Bk w' b off lo hi fi L cnt g ws bl := ⟨Cn_heap h.cn e, h.len, h.rd, h.zero, h.olo, h.lh, h.hiL, h.mod, h.Lm, h.wl, h.wh⟩
theorem Bk.upd {w' : World} {S : List Nat} (h : Bk w b off lo hi fi L cnt g ws bl) (hu : Upd S w w') (h1 : b ∉ S) (h2 : g ∉ S) : Bk w' b off lo hi fi L cnt g ws bl := ⟨h.cn.upd hu h1 h2, h.len, h.rd, h.zero, h.olo, h.lh, h.hiL, h.mod, h.Lm, h.wl, h.wh⟩
end

/-- What a move makes of the counts. -/
theorem move_rd {bl m J K N L : Nat} {ws : List Nat} {off lo hi start : Int} {cnt : Int → Nat} (h3 : 3 ≤ bl) (h6 : bl ≤ 6) (hL : ws.length * per bl = L)
    (rd : ∀ i : Int, off ≤ i → i < off + L → fld bl ws (i - off).toNat = cnt i) (zero : ∀ i : Int, i < lo ∨ hi < i → cnt i = 0)
    (hJ : lo - start = (J : Int)) (hK : lo - off = (K : Int)) (hN : hi - lo + 1 = (N : Int)) (hN1 : 1 ≤ N) (hmod : off % 8 = 0) (smod : start % 8 = 0) (hhi : hi < off + L)
    (i : Int) (hi1 : start ≤ i) (hi2 : i < start + (m * per bl : Nat)) :
    fld bl (cpart ws m (J / per bl) (K / per bl) ((J + N - 1) / per bl + 1 - J / per bl)) (i - start).toNat = cnt i := by
  obtain ⟨j, hj⟩ : ∃ j : Nat, i - start = (j : Int) := ⟨(i - start).toNat, by omega⟩
  rw [hj, Int.toNat_natCast, fld_field, cpart_getD]
  have hp0 := per_pos bl
  have hjm : j / per bl < m := by rw [Nat.div_lt_iff_lt_mul hp0]; omega
  by_cases hin : J / per bl ≤ j / per bl ∧ j / per bl < J / per bl + ((J + N - 1) / per bl + 1 - J / per bl)
  · rw [if_pos ⟨hjm, hin⟩]
    have hfacts : ∃ q : Nat, i - off = (q : Int) ∧ q / per bl = j / per bl - J / per bl + K / per bl ∧ q % per bl = j % per bl ∧ q < L := by
      refine ⟨(i - off).toNat, ?_⟩
      rcases bl_cases h3 h6 with rfl | rfl | rfl | rfl <;> simp [per] at * <;> omega
    obtain ⟨q, hq, hq1, hq2, hq3⟩ := hfacts
    have h1 := rd i (by omega) (by omega)
    rw [hq, Int.toNat_natCast, fld_field, hq1, hq2] at h1
    exact h1
  · rw [if_neg (fun h => hin h.2), field_zero]
    refine (zero i ?_).symm
    rcases bl_cases h3 h6 with rfl | rfl | rfl | rfl <;> simp [per] at * <;> omega

theorem rule0 : bits BinOp.and IntKind.u8 0 3 = 0 := by decide

set_option maxHeartbeats 400000 in
theorem empty_no {w : World} {b : Nat} {off lo hi fi : Int} {L : Nat} {cnt : Int → Nat} {g : Nat} {ws : List Nat} {bl : Nat} (h : Bk w b off lo hi fi L cnt g ws bl) :
    Calls Try.prog 38 #[.pointer (some ⟨b, 0, none⟩)] w fun e w' => e = .returned (.bool false) ∧ ∃ q, w' = w.drewN q := by
  have H := hid (len_cn h.cn 1 rfl L h.len)
  have hL0 : ((L : Int) == 0) = false := by have := h.olo; have := h.lh; have := h.hiL; simp; omega
  clear h
  go_enter Try.func38, Try.ntmps38
  go_wp2_with (go_at_call 25; refine H.out.mono ?_; rintro e w1 ⟨rfl, q, rfl⟩)
  go_ret
  exact ⟨rfl, _, rfl⟩

set_option maxHeartbeats 400000 in
theorem span_bk {w : World} {b : Nat} {off lo hi fi : Int} {L : Nat} {cnt : Int → Nat} {g : Nat} {ws : List Nat} {bl : Nat} (h : Bk w b off lo hi fi L cnt g ws bl) (N : Nat) (hN : hi - lo + 1 = (N : Int)) :
    Calls Try.prog 43 #[.pointer (some ⟨b, 0, none⟩)] w fun e w' => e = .returned (.int .i64 (N : Int)) ∧ ∃ q, w' = w.drewN q := by
  have c5 : w.cell? ⟨b, 5, none⟩ = some (.int .i64 lo) := h.blk8.cellv rfl
  have c6 : w.cell? ⟨b, 6, none⟩ = some (.int .i64 hi) := h.blk8.cellv rfl
  have w1 := h.wl; have w2 := h.wh; have w3 := h.lh
  have H := hid (empty_no h)
  have hb : Hid (Calls Try.prog 48 #[.pointer (some ⟨b, 0, none⟩)] w fun e w' => e = .returned (.tuple #[.int .i64 lo, .int .i64 hi]) ∧ ∃ q, w' = w.drewN q) := by
    refine hid ?_
    clear hN h
    go_enter Try.func48, Try.ntmps48
    go_wp2_with (go_at_call 38; refine H.out.mono ?_; rintro e w1 ⟨rfl, q, rfl⟩)
    go_quiet (fail)
    go_wp2
    go_ret2
    exact ⟨rfl, q + nq, by rw [World.drewN_drewN]⟩
  have hsp : hi - lo ≤ 200000 := by have := h.olo; have := h.hiL; have := h.Lm; omega
  have HN := hid hN
  clear h H hN
  go_enter Try.func43, Try.ntmps43
  go_wp2_with (go_at_call 48; refine hb.out.mono ?_; rintro e w1 ⟨rfl, q, rfl⟩)
  go_ret
  exact ⟨ret_int HN.out, _, rfl⟩

/-- The eight cells of a run, the counters' four written out. -/
def cells8 (off : Int) (g n bl : Nat) (lo hi fi : Int) : List Value := [.int .i64 off, .slice (some ⟨g, 0, none⟩) n n, .int .u64 ((full bl : Nat) : Int), .int .u8 (bl : Int), .int .u8 ((6 - bl : Nat) : Int), .int .i64 lo, .int .i64 hi, .int .i64 fi]

theorem store5 {w : World} {b g n bl : Nat} {off lo hi fi : Int} (h : Blk w b (cells8 off g n bl lo hi fi) 56) (off' : Int) (g' n' bl' : Nat) :
    Blk (((((w.setCell ⟨b, 0, none⟩ (.int .i64 off')).setCell ⟨b, 1, none⟩ (.slice (some ⟨g', 0, none⟩) n' n')).setCell ⟨b, 2, none⟩ (.int .u64 ((full bl' : Nat) : Int))).setCell ⟨b, 3, none⟩ (.int .u8 (bl' : Int))).setCell ⟨b, 4, none⟩ (.int .u8 ((6 - bl' : Nat) : Int))) b (cells8 off' g' n' bl' lo hi fi) 56 ∧
    (∀ b' cs T', Blk w b' cs T' → b' ≠ b → Blk (((((w.setCell ⟨b, 0, none⟩ (.int .i64 off')).setCell ⟨b, 1, none⟩ (.slice (some ⟨g', 0, none⟩) n' n')).setCell ⟨b, 2, none⟩ (.int .u64 ((full bl' : Nat) : Int))).setCell ⟨b, 3, none⟩ (.int .u8 (bl' : Int))).setCell ⟨b, 4, none⟩ (.int .u8 ((6 - bl' : Nat) : Int))) b' cs T') ∧
    Upd [b] w (((((w.setCell ⟨b, 0, none⟩ (.int .i64 off')).setCell ⟨b, 1, none⟩ (.slice (some ⟨g', 0, none⟩) n' n')).setCell ⟨b, 2, none⟩ (.int .u64 ((full bl' : Nat) : Int))).setCell ⟨b, 3, none⟩ (.int .u8 (bl' : Int))).setCell ⟨b, 4, none⟩ (.int .u8 ((6 - bl' : Nat) : Int))) := by
  refine ⟨?_, fun b' cs T' hb hne => ((((hb.set_other _ hne).set_other _ hne).set_other _ hne).set_other _ hne).set_other _ hne, ((((Upd.setCell w (Or.inl (by simp)) _).trans (Upd.setCell _ (Or.inl (by simp)) _)).trans (Upd.setCell _ (Or.inl (by simp)) _)).trans (Upd.setCell _ (Or.inl (by simp)) _)).trans (Upd.setCell _ (Or.inl (by simp)) _)⟩
  exact ((((h.set 0 _).set 1 _).set 2 _).set 3 _).set 4 _

set_option maxRecDepth 100000 in
set_option maxHeartbeats 2000000 in
theorem move_any {w : World} {b : Nat} {off lo hi fi : Int} {L : Nat} {cnt : Int → Nat} {g : Nat} {ws : List Nat} {bl : Nat} (h : Bk w b off lo hi fi L cnt g ws bl) (start : Int) (n : Nat)
    (smod : start % 8 = 0) (slo : start ≤ lo) (shi : hi < start + n) (hn : n ≤ 199990) :
    Calls Try.prog 40 #[.pointer (some ⟨b, 0, none⟩), .int .i64 start, .int .i64 (n : Int)] w
      fun e w' => e = .returned (.tuple #[]) ∧ ∃ L' g' ws', n ≤ L' ∧ w.heap.size ≤ g' ∧ Bk w' b start lo hi fi L' cnt g' ws' bl ∧ Upd [b] w w' := by
  have h3 := h.cn.h3; have h6 := h.cn.h6
  have w1 := h.wl; have w2 := h.wh; have w3 := h.lh; have w4 := h.olo; have w5 := h.hiL; have w6 := h.Lm
  obtain ⟨m, hm⟩ : ∃ m, (n + per bl - 1) / per bl = m := ⟨_, rfl⟩
  obtain ⟨J, hJ⟩ : ∃ J : Nat, lo - start = (J : Int) := ⟨(lo - start).toNat, by omega⟩
  obtain ⟨K, hK⟩ : ∃ K : Nat, lo - off = (K : Int) := ⟨(lo - off).toNat, by omega⟩
  obtain ⟨N, hN⟩ : ∃ N : Nat, hi - lo + 1 = (N : Int) := ⟨(hi - lo + 1).toNat, by omega⟩
  have hmn := words_le h3 h6 hm
  have hmL : n ≤ m * per bl ∧ m * per bl ≤ n + 8 := by
    subst hm
    rcases bl_cases h3 h6 with rfl | rfl | rfl | rfl <;> simp [per] <;> omega
  have HM := hid fun wx => make_any n m bl wx h3 h6 (by omega) hm
  have HS := hid fun wx e => span_bk (Bk.heap (w' := wx) h e) N hN
  have HB := hid h
  have hoffm := h.mod
  have hlen := h.len
  have c0 : w.cell? ⟨b, 0, none⟩ = some (.int .i64 off) := h.blk8.cellv rfl
  have c3 : w.cell? ⟨b, 3, none⟩ = some (.int .u8 (bl : Int)) := h.blk8.cellv rfl
  have RD := hid fun i h1 h2 => move_rd (m := m) h3 h6 h.len h.rd h.zero hJ hK hN (by omega) h.mod smod h.hiL i h1 h2
  have HJ := hid hJ; have HK := hid hK; have HNN := hid hN; have HLEN := hid hlen
  clear h hJ hK hN hm hlen
  go_enter Try.func40, Try.ntmps40
  go_wp2_with (go_at_call 24; refine (HM.out _).mono ?_; rintro e w2 ⟨gc, hgc, rfl, hrow, hu⟩)
  have hgcw2 := hrow.lt
  obtain ⟨W3, hW3⟩ : ∃ W, w2.alloc (.cells #[.slice (some ⟨gc, 0, none⟩) m m, .int .u64 ((full bl : Nat) : Int), .int .u8 (bl : Int), .int .u8 ((6 - bl : Nat) : Int)] 50) = W := ⟨_, rfl⟩
  obtain ⟨bn, hbn⟩ : ∃ bn, w2.heap.size = bn := ⟨_, rfl⟩
  rw [hW3]
  have HCN : Hid (Cn W3 bn [] [] 50 gc (List.replicate m 0) bl) := by
    rw [← hW3, ← hbn]
    refine hid ⟨?_, hrow.alloc _, h3, h6, replicate_lt m, by simp; omega, by omega⟩
    have := Blk.new' w2 #[.slice (some ⟨gc, 0, none⟩) m m, .int .u64 ((full bl : Nat) : Int), .int .u8 (bl : Int), .int .u8 ((6 - bl : Nat) : Int)] 50
    simpa [cn4] using this
  have HB3 : Hid (Bk W3 b off lo hi fi L cnt g ws bl) := by rw [← hW3]; exact hid ((HB.out.upd hu (by simp) (by simp)).upd (Upd.alloc [] _ _) (by simp) (by simp))
  have HU3 : Hid (Upd [] w W3) := by rw [← hW3]; exact hid (hu.trans (Upd.alloc _ _ _))
  have hbw := HB.out.cn.blk.lt
  have hgw := HB.out.cn.row.lt
  have hbn' : w.heap.size ≤ bn := by rw [← hbn]; exact hu.size
  have d0 : W3.cell? ⟨b, 0, none⟩ = some (.int .i64 off) := HB3.out.blk8.cellv rfl
  have d5 : W3.cell? ⟨b, 5, none⟩ = some (.int .i64 lo) := HB3.out.blk8.cellv rfl
  have rJ := HJ.out
  have rK := HK.out
  have wJ : IntKind.i64.wrap (J : Int) = (J : Int) := IntWalk.i64_in _ (by omega)
  have wK : IntKind.i64.wrap (K : Int) = (K : Int) := IntWalk.i64_in _ (by omega)
  have hJK : Hid (J % 8 = K % 8) := hid (by omega)
  have hJm : Hid (J + N ≤ m * per bl) := hid (by have := HNN.out; omega)
  have hKl : Hid (K + N ≤ ws.length * per bl) := hid (by rw [HLEN.out]; have := HNN.out; omega)
  have hN1 : 1 ≤ N := by have := HNN.out; omega
  have hgcb : gc ≠ b := by omega
  have hgcg : gc ≠ g := by omega
  clear hW3 hu hrow c0 c3
  go_region_held3 (fun w' => w'.cell? ⟨b, 0, none⟩ = some (.int .i64 off) ∧ w'.cell? ⟨b, 5, none⟩ = some (.int .i64 lo)) (simp [go_sem, *])
    (first
      | (go_at_call 43; refine (span_bk (Bk.heap HB3.out (by rfl)) N HNN.out).mono ?_; rintro e w' ⟨rfl, q, rfl⟩)
      | (go_at_call 35; refine (addAll_fast 1 rfl (Cn_heap HCN.out (by rfl)) (Cn_heap HB3.out.cn (by rfl)) hgcg hgcb J K N hN1 hJK.out hJm.out hKl.out).mono ?_; rintro e w5 ⟨⟨f, rfl⟩, hrow5, hu5⟩; have g0 : w5.cell? ⟨b, 0, none⟩ = some (.int .i64 off) := (hu5.blk (Blk_heap HB3.out.blk8 (by rfl)) (by simp; omega)).cellv rfl; have g5 : w5.cell? ⟨b, 5, none⟩ = some (.int .i64 lo) := (hu5.blk (Blk_heap HB3.out.blk8 (by rfl)) (by simp; omega)).cellv rfl))
  have hbnb : bn ≠ b := by omega
  have B5 := hu5.blk (Blk_heap HCN.out.blk (by rfl)) (by have := HCN.out.ne; simp; omega)
  have C5 := hu5.blk (Blk_heap HB3.out.blk8 (by rfl)) (by simp; omega)
  have l0 : w5.cell? ⟨bn, 0, none⟩ = some (.slice (some ⟨gc, 0, none⟩) m m) := by have := B5.cellv (i := 0) (v := .slice (some ⟨gc, 0, none⟩) m m) (by simp [cn4]); exact this
  have l1 : w5.cell? ⟨bn, 1, none⟩ = some (.int .u64 ((full bl : Nat) : Int)) := B5.cellv rfl
  have l2 : w5.cell? ⟨bn, 2, none⟩ = some (.int .u8 (bl : Int)) := B5.cellv rfl
  have l3 : w5.cell? ⟨bn, 3, none⟩ = some (.int .u8 ((6 - bl : Nat) : Int)) := B5.cellv rfl
  have s1 : w5.cell? ⟨b, 1, none⟩ = some (.slice (some ⟨g, 0, none⟩) ws.length ws.length) := C5.cellv rfl
  have s2 : w5.cell? ⟨b, 2, none⟩ = some (.int .u64 ((full bl : Nat) : Int)) := C5.cellv rfl
  have s3 : w5.cell? ⟨b, 3, none⟩ = some (.int .u8 (bl : Int)) := C5.cellv rfl
  have s4 : w5.cell? ⟨b, 4, none⟩ = some (.int .u8 ((6 - bl : Nat) : Int)) := C5.cellv rfl
  have z0 := C5.frozen 0
  have z1 := C5.frozen 1
  have z2 := C5.frozen 2
  have z3 := C5.frozen 3
  have z4 := C5.frozen 4
  have HC5 := hid C5
  have HR5 := hid hrow5
  have HU5 := hid hu5
  clear B5 C5 hrow5 hu5 d0 d5 rJ rK
  go_wp2
  go_end0
  obtain ⟨k1, k2, k3⟩ := store5 (off := off) (lo := lo) (hi := hi) (fi := fi) (g := g) (n := ws.length) (bl := bl) HC5.out start gc m bl
  have hwlt := HB.out.cn.lt
  refine ⟨rfl, m * per bl, gc, _, hmL.1, hgc, ⟨⟨?_, k2 gc _ _ HR5.out (by omega), h3, h6, cpart_lt hwlt _ _ _ _, by rw [cpart_len]; omega, by omega⟩, by rw [cpart_len], fun i h1 h2 => RD.out i h1 h2, HB.out.zero, slo, w3, by omega, smod, by omega, HB.out.wl, HB.out.wh⟩, ?_⟩
  · rw [cpart_len]; exact k1
  · exact (((HU3.out.mono (by simp)).trans (Upd.drewN _ _ _)).trans' HU5.out (by simp; omega)).trans k3
end Go.Proofs.Qxb6616660a
