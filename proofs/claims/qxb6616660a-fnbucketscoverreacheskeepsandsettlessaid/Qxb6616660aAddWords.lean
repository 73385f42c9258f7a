import Derived.Test.Qxb6616660aWordAs
namespace Go.Proofs.Qxb6616660a
open Go.RowKit Go.Qm

/-- The first r words widened, the others still 0. -/
def wpart (bl : Nat) (ws : List Nat) (bl' m r : Nat) : List Nat := (List.range m).map fun t => if t < r then wAs bl ws bl' (t * per bl') else 0
theorem wpart_len (bl : Nat) (ws : List Nat) (bl' m r : Nat) : (wpart bl ws bl' m r).length = m := by simp [wpart]
theorem wpart_zero (bl : Nat) (ws : List Nat) (bl' m : Nat) : wpart bl ws bl' m 0 = List.replicate m 0 := by
  apply List.ext_getElem?
  intro i
  by_cases hi : i < m
  · simp [wpart, hi]
  · simp [wpart, hi]
theorem wpart_all (bl : Nat) (ws : List Nat) (bl' m : Nat) : wpart bl ws bl' m m = widened bl ws bl' m := by
  unfold wpart widened
  apply List.map_congr_left
  intro t ht
  rw [if_pos (List.mem_range.1 ht)]
theorem wpart_get (bl : Nat) (ws : List Nat) (bl' m r : Nat) : (wpart bl ws bl' m r).getD r 0 = 0 := by
  by_cases hr : r < m
  · simp [wpart, List.getD, hr]
  · simp [wpart, List.getD, hr]
theorem wpart_set (bl : Nat) (ws : List Nat) (bl' m r : Nat) (hr : r < m) : (wpart bl ws bl' m r).set r (wAs bl ws bl' (r * per bl')) = wpart bl ws bl' m (r + 1) := by
  apply List.ext_getElem?
  intro i
  rw [List.getElem?_set]
  by_cases hi : i < m
  · by_cases h : r = i
    · subst h; simp [wpart, hi]
    · simp only [wpart, List.getElem?_map, List.getElem?_range hi, h, if_false, Option.map_some]
      by_cases h1 : i < r
      · rw [if_pos h1, if_pos (by omega)]
      · rw [if_neg h1, if_neg (by omega)]
  · have : r ≠ i := by omega
    simp [wpart, hi, this]

theorem Cn_heap {w w' : World} {b : Nat} {pre post : List Value} {T : TypeId} {g : Nat} {ws : List Nat} {bl : Nat} (h : Cn w b pre post T g ws bl) (e : w'.heap = w.heap) : Cn w' b pre post T g ws bl :=
  ⟨by have := h.blk; unfold Blk at *; rw [e]; exact this, by have := h.row; unfold Blk at *; rw [e]; exact this, h.h3, h.h6, h.lt, h.len, h.ne⟩
theorem Blk_heap {w w' : World} {b : Nat} {cs : List Value} {T : TypeId} (h : Blk w b cs T) (e : w'.heap = w.heap) : Blk w' b cs T := by
  unfold Blk at *; rw [e]; exact h

set_option maxRecDepth 100000 in
set_option maxHeartbeats 2000000 in
theorem addWords_slow {w : World} {bc gc bo : Nat} {pre post : List Value} {T : TypeId} {g : Nat} {ws : List Nat} {bl bl' m : Nat} (o : Nat) (ho : pre.length = o)
    (hc : Cn w bc [] [] 50 gc (List.replicate m 0) bl') (h : Cn w bo pre post T g ws bl) (hbl : bl < bl') (hm : m * per bl' = ws.length * per bl) (n1 : gc ≠ g) (n2 : gc ≠ bo) (L : Nat) (hL : ws.length * per bl = L) :
    Calls Try.prog 41 #[.pointer (some ⟨bc, 0, none⟩), .pointer (some ⟨bo, o, none⟩), .int .i64 0, .int .i64 (L : Int), .int .i64 0] w
      fun e w' => (∃ f : Int, e = .returned (.tuple #[.int .i64 (L : Int), .int .i64 f])) ∧ Blk w' gc (W64 (widened bl ws bl' m)) 25 ∧ Upd [gc] w w' := by
  have c0 : w.cell? ⟨bc, 0, none⟩ = some (.slice (some ⟨gc, 0, none⟩) m m) := by have := hc.c0; simpa using this
  have c2 : w.cell? ⟨bc, 2, none⟩ = some (.int .u8 (bl' : Int)) := hc.c2
  have c3 : w.cell? ⟨bc, 3, none⟩ = some (.int .u8 ((6 - bl' : Nat) : Int)) := hc.c3
  have o2 : w.cell? ⟨bo, o + 2, none⟩ = some (.int .u8 (bl : Int)) := by subst ho; exact h.c2
  have h6 := hc.h6
  have h3 := hc.h3
  have hand : bits BinOp.and IntKind.u8 ((6 - bl' : Nat) : Int) 3 = ((6 - bl' : Nat) : Int) := by
    rcases bl_cases h3 h6 with rfl | rfl | rfl | rfl <;> decide
  obtain ⟨pl, hpl⟩ : ∃ pl, 6 - bl' = pl := ⟨_, rfl⟩
  rw [hpl] at c3 hand
  have HF := hid fun wx e => fields_any bc 0 bl' wx h3 h6 (Cn_heap hc e).c1 (Cn_heap hc e).c2
  have e2 : (2 : Int) ^ pl = ((per bl' : Nat) : Int) := by rw [← hpl]; simp [per]
  have hmin : min pl 64 = pl := by omega
  have hfw := ftop_lt h3 h6
  have hgcl := hc.row.lt
  have hbcl := hc.blk.lt
  obtain ⟨p', hp'⟩ : ∃ p', per bl' = p' := ⟨_, rfl⟩
  have hp0 : 0 < p' := by rw [← hp']; exact per_pos _
  have hp8 : p' ≤ 8 := by rw [← hp']; exact per_le h3 h6
  rw [hp'] at e2
  have HP' := hid hp'
  have HL : Hid (m * p' = L) := by rw [← hp', hm, hL]; exact hid rfl
  have hml := hc.len
  rw [List.length_replicate] at hml
  have HC := hid hc
  have HO := hid h
  have HLL := hid hL
  have hoff := hid ho
  clear hpl hp' hc h hm hL ho
  have hne : ((bl : Int) == (bl' : Int)) = false := by simp; omega
  go_enter Try.func41, Try.ntmps41
  go_wp2
  go_quiet (fail)
  go_wp2_with (go_at_call 44; refine (HF.out _ (by rfl)).mono ?_; rintro e w1 ⟨rfl, cc, rfl⟩)
  obtain ⟨W1, hW1⟩ : ∃ W, ((w.drewN nq).alloc (Obj.cells cc 73)).alloc (.cells #[.int .u64 ((fbot bl' : Nat) : Int), .int .u64 ((ftop bl' : Nat) : Int), .int .u64 ((fdn bl' : Nat) : Int), .int .u64 ((fup bl' : Nat) : Int)] 73) = W := ⟨_, rfl⟩
  obtain ⟨bf, hbf⟩ : ∃ bf, w.heap.size + 1 = bf := ⟨_, rfl⟩
  rw [hW1, hbf]
  have HC1 : Hid (Cn W1 bc [] [] 50 gc (List.replicate m 0) bl') := by rw [← hW1]; exact hid (((HC.out.drewN nq).alloc _).alloc _)
  have HO1 : Hid (Cn W1 bo pre post T g ws bl) := by rw [← hW1]; exact hid (((HO.out.drewN nq).alloc _).alloc _)
  have HU1 : Hid (Upd [gc] w W1) := by rw [← hW1]; exact hid (((Upd.drewN _ _ nq).trans (Upd.alloc _ _ _)).trans (Upd.alloc _ _ _))
  have HB1 : Hid (Blk W1 bf [.int .u64 ((fbot bl' : Nat) : Int), .int .u64 ((ftop bl' : Nat) : Int), .int .u64 ((fdn bl' : Nat) : Int), .int .u64 ((fup bl' : Nat) : Int)] 73) := by
    rw [← hW1, ← hbf]
    have := Blk.new ((w.drewN nq).alloc (Obj.cells cc 73)) [.int .u64 ((fbot bl' : Nat) : Int), .int .u64 ((ftop bl' : Nat) : Int), .int .u64 ((fdn bl' : Nat) : Int), .int .u64 ((fup bl' : Nat) : Int)] 73
    simpa using hid this
  have hbfg : gc ≠ bf := by omega
  have d2 : W1.cell? ⟨bc, 2, none⟩ = some (.int .u8 (bl' : Int)) := HC1.out.c2
  have q2 : W1.cell? ⟨bo, o + 2, none⟩ = some (.int .u8 (bl : Int)) := by have := HO1.out.c2; rw [hoff.out] at this; exact this
  clear hW1 hbf c0 c2 c3 o2 hand
  go_quiet (fail)
  go_wp2
  go_loopw [2, 11] (fun i f wr => ∃ (r I : Nat), r ≤ m ∧ Hid (I = r * p') ∧ i = .int .i64 I ∧ (∃ F : Int, f = .int .i64 F) ∧ Blk wr gc (W64 (wpart bl ws bl' m r)) 25 ∧ Upd [gc] W1 wr) (fun i _ _ => L - (intOf i).toNat)
  case atStart =>
    refine ⟨0, 0, Nat.zero_le _, hid (by simp), rfl, ⟨0, rfl⟩, ?_, Upd.drewN _ _ _⟩
    rw [wpart_zero]; exact HC1.out.row.drewN _
  case round =>
    obtain ⟨r, I, hr, hI, rfl, ⟨F, rfl⟩, hrow, hu⟩ := hrel
    by_cases hlt : r < m
    · have hIL : I < L := by
        have h1 : (r + 1) * p' ≤ m * p' := Nat.mul_le_mul_right _ hlt
        rw [Nat.add_mul, Nat.one_mul] at h1
        have := hI.out; have := HL.out; omega
      have hIb : I + p' ≤ L := by
        have h1 : (r + 1) * p' ≤ m * p' := Nat.mul_le_mul_right _ hlt
        rw [Nat.add_mul, Nat.one_mul] at h1
        have := hI.out; have := HL.out; omega
      have hLb : L ≤ 16777216 := by
        have h1 : m * p' ≤ 2097152 * 8 := Nat.mul_le_mul hml hp8
        have := HL.out; omega
      have eI : (I : Int) / (p' : Int) = (r : Int) := by
        rw [hI.out]
        have : ((r * p' : Nat) : Int) / (p' : Int) = ((r * p' / p' : Nat) : Int) := by simp
        rw [this, Nat.mul_div_cancel _ hp0]
      have wI : IntKind.i64.wrap (I : Int) = (I : Int) := IntWalk.i64_in _ (by omega)
      have hbf2 := hu.blk HB1.out (by simp; omega)
      have f0 : wr.cell? ⟨bf, 0, none⟩ = some (.int .u64 ((fbot bl' : Nat) : Int)) := hbf2.cellv rfl
      have f1 : wr.cell? ⟨bf, 1, none⟩ = some (.int .u64 ((ftop bl' : Nat) : Int)) := hbf2.cellv rfl
      have f2 : wr.cell? ⟨bf, 2, none⟩ = some (.int .u64 ((fdn bl' : Nat) : Int)) := hbf2.cellv rfl
      have f3 : wr.cell? ⟨bf, 3, none⟩ = some (.int .u64 ((fup bl' : Nat) : Int)) := hbf2.cellv rfl
      have HOR := hid (HO1.out.upd hu (by simp; omega) (by simp; omega))
      have hbcgc := HC1.out.ne
      have b2 : wr.cell? ⟨bc, 2, none⟩ = some (.int .u8 (bl' : Int)) := (hu.blk HC1.out.blk (by simp; omega)).cellv rfl
      have HROW := hid hrow
      have HUR := hid hu
      have HBF := hid hbf2
      have hcb : Hid (Blk wr bc ([] ++ cn4 gc (List.replicate m 0).length bl' ++ []) 50) := hid (hu.blk HC1.out.blk (by simp; omega))
      clear hrow hu hbf2 d2 q2
      go_wp2
      go_region_held3 (fun w' => w'.cell? ⟨bf, 0, none⟩ = some (.int .u64 ((fbot bl' : Nat) : Int)) ∧ w'.cell? ⟨bf, 1, none⟩ = some (.int .u64 ((ftop bl' : Nat) : Int)) ∧ w'.cell? ⟨bf, 2, none⟩ = some (.int .u64 ((fdn bl' : Nat) : Int)) ∧ w'.cell? ⟨bf, 3, none⟩ = some (.int .u64 ((fup bl' : Nat) : Int)) ∧ w'.cell? ⟨bc, 2, none⟩ = some (.int .u8 (bl' : Int))) (simp [go_sem, *])
        (first
          | (go_at_call 47; refine (wordAs_any (Cn_heap HOR.out (by rfl)) o hoff.out bl' hbl h6 I (by rw [hI.out, HP'.out]; exact Nat.mul_mod_left _ _) (by rw [HP'.out, HLL.out]; exact hIb)).mono ?_; rintro e w' ⟨rfl, q, rfl⟩)
          | (go_at_call 45; refine (fadd_any bl' _ r gc 0 m m (wpart bl ws bl' m r) _ h3 h6 (wAs_lt (by omega) h6 _ _) hlt (by omega) (Blk_heap HROW.out (by rfl)) (by rw [wpart_len]; omega) (by rw [Nat.zero_add]; exact wpart_get _ _ _ _ _)).mono ?_; rintro e w5 ⟨⟨nw, rfl, hnw0, hnw1⟩, hrow5, hu5⟩; have g0 : w5.cell? ⟨bf, 0, none⟩ = some (.int .u64 ((fbot bl' : Nat) : Int)) := (hu5.blk (Blk_heap HBF.out (by rfl)) (by simp; omega)).cellv rfl; have g1 : w5.cell? ⟨bf, 1, none⟩ = some (.int .u64 ((ftop bl' : Nat) : Int)) := (hu5.blk (Blk_heap HBF.out (by rfl)) (by simp; omega)).cellv rfl; have g2 : w5.cell? ⟨bf, 2, none⟩ = some (.int .u64 ((fdn bl' : Nat) : Int)) := (hu5.blk (Blk_heap HBF.out (by rfl)) (by simp; omega)).cellv rfl; have g3 : w5.cell? ⟨bf, 3, none⟩ = some (.int .u64 ((fup bl' : Nat) : Int)) := (hu5.blk (Blk_heap HBF.out (by rfl)) (by simp; omega)).cellv rfl; have g4 : w5.cell? ⟨bc, 2, none⟩ = some (.int .u8 (bl' : Int)) := (hu5.blk (Blk_heap hcb.out (by rfl)) (by simp; omega)).cellv rfl))
      have HR5 := hid hrow5
      have HU5 := hid hu5
      clear hrow5 hu5 g4
      go_wp2_with (go_at_call 46; refine (fcount_any bl' nw _ h3 h6).mono ?_; rintro e w6 ⟨⟨cnt, rfl⟩, hu6⟩)
      go_roundw
      case rel =>
        refine ⟨r + 1, I + p', hlt, hid (by rw [hI.out, Nat.add_mul, Nat.one_mul]), by go_num, ⟨_, rfl⟩, ?_, ?_⟩
        · have h1 := hu6.blk HR5.out (by simp)
          rw [Nat.zero_add, hI.out, ← HP'.out, wpart_set _ _ _ _ _ hlt] at h1
          exact h1
        · exact ((HUR.out.trans (Upd.drewN _ _ _)).trans HU5.out).trans (hu6.mono (by simp))
      case measure => simp [intOf]; omega
    · obtain rfl : r = m := by omega
      obtain rfl : I = L := by rw [hI.out, HL.out]
      go_wp2
      go_ret2
      rw [wpart_all] at hrow
      exact ⟨⟨F, rfl⟩, hrow, HU1.out.trans hu⟩
end Go.Proofs.Qxb6616660a
