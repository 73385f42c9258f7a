import Derived.Test.Qxb6616660aWiden
namespace Go.Proofs.Qxb6616660a
open Go.RowKit Go.Qm

/-- r words of ws, from word S on, laid from word F on; the others 0. -/
def cpart (ws : List Nat) (m F S r : Nat) : List Nat := (List.range m).map fun t => if F ≤ t ∧ t < F + r then ws.getD (t - F + S) 0 else 0
theorem cpart_len (ws : List Nat) (m F S r : Nat) : (cpart ws m F S r).length = m := by simp [cpart]
theorem cpart_getD (ws : List Nat) (m F S r t : Nat) : (cpart ws m F S r).getD t 0 = if t < m ∧ F ≤ t ∧ t < F + r then ws.getD (t - F + S) 0 else 0 := by
  by_cases ht : t < m
  · simp [cpart, List.getD, ht]
  · simp [cpart, List.getD, ht]
theorem cpart_zero (ws : List Nat) (m F S : Nat) : cpart ws m F S 0 = List.replicate m 0 := by
  apply List.ext_getElem?
  intro i
  by_cases hi : i < m
  · have : ¬ (F ≤ i ∧ i < F + 0) := by omega
    simp only [cpart, List.getElem?_map, List.getElem?_range hi, Option.map_some, if_neg this, List.getElem?_replicate, if_pos hi]
  · simp [cpart, hi]
theorem cpart_set (ws : List Nat) (m F S r : Nat) (hr : F + r < m) : (cpart ws m F S r).set (F + r) (ws.getD (S + r) 0) = cpart ws m F S (r + 1) := by
  apply List.ext_getElem?
  intro i
  rw [List.getElem?_set]
  by_cases hi : i < m
  · by_cases h : F + r = i
    · subst h
      have h1 : F ≤ F + r ∧ F + r < F + (r + 1) := by omega
      simp only [cpart, List.getElem?_map, List.getElem?_range hi, Option.map_some, if_pos h1, List.length_map, List.length_range, hi, if_true]
      rw [show F + r - F + S = S + r by omega]
    · simp only [cpart, List.getElem?_map, List.getElem?_range hi, h, if_false, Option.map_some]
      by_cases h1 : F ≤ i ∧ i < F + r
      · rw [if_pos h1, if_pos (by omega)]
      · rw [if_neg h1, if_neg (by omega)]
  · have : F + r ≠ i := by omega
    simp [cpart, hi, this]
theorem cpart_lt {ws : List Nat} (h : ∀ x ∈ ws, x < 18446744073709551616) (m F S r : Nat) : ∀ x ∈ cpart ws m F S r, x < 18446744073709551616 := by
  intro x hx
  obtain ⟨t, _, rfl⟩ := List.mem_map.1 hx
  split
  · exact getD_lt h _
  · decide

theorem elem34 : Try.prog.elem 34 = 25 := by kernel_rfl
theorem under34 : Try.prog.underlying 34 = some (.slice (Try.prog.elem 34)) := by rw [elem34]; exact Try.underlying34
theorem cut34_lh (wx : World) (g o len cap : Nat) (L H : Int) (l h : Nat) (hL : L = (l : Int)) (hH : H = (h : Int)) (hlh : l ≤ h) (hhc : h ≤ cap) (hlc : l < cap) :
    (Instr.slice 34 (.slice (some ⟨g, o, none⟩) len cap) (some (.int .i64 L)) (some (.int .i64 H)) none).run Try.prog wx = .ok (.slice (some ⟨g, o + l, none⟩) (h - l) (cap - l)) wx := by
  obtain ⟨i0, hi, hz0, hz1, hz2⟩ := info_parts info25
  subst hL hH
  rw [run_slice_lh wx 34 (some ⟨g, o, none⟩) len cap under34 .i64 .i64 l h (by omega) (by omega) (by omega), elem34]
  simp [sizeOf, typeInfo, hi, hz1, sliced, show ¬ cap = l by omega, Addr.add_lit]
theorem cut34_l (wx : World) (g o len cap : Nat) (L : Int) (l : Nat) (hL : L = (l : Int)) (hl : l ≤ len) (hlc : l < cap) :
    (Instr.slice 34 (.slice (some ⟨g, o, none⟩) len cap) (some (.int .i64 L)) none none).run Try.prog wx = .ok (.slice (some ⟨g, o + l, none⟩) (len - l) (cap - l)) wx := by
  obtain ⟨i0, hi, hz0, hz1, hz2⟩ := info_parts info25
  subst hL
  rw [run_slice_l wx 34 (some ⟨g, o, none⟩) len cap under34 .i64 l (by omega) (by omega), elem34]
  simp [sizeOf, typeInfo, hi, hz1, sliced, show ¬ cap = l by omega, Addr.add_lit]

set_option maxRecDepth 100000 in
set_option maxHeartbeats 2000000 in
theorem addWords_fast {w : World} {bc gc bo : Nat} {pre post : List Value} {T : TypeId} {g : Nat} {ws : List Nat} {bl m : Nat} (o : Nat) (ho : pre.length = o)
    (hc : Cn w bc [] [] 50 gc (List.replicate m 0) bl) (h : Cn w bo pre post T g ws bl) (n1 : gc ≠ g) (n2 : gc ≠ bo) (I E F Lw S R : Nat) (dl D : Int)
    (hI : I = F * per bl) (hE : 1 ≤ E) (hEL : (E - 1) / per bl = Lw) (hFL : F ≤ Lw) (hLm : Lw < m) (hdl : dl = D * (per bl : Int)) (hS : (F : Int) + D = (S : Int)) (hSl : S + (Lw + 1 - F) ≤ ws.length) (hR : (Lw + 1) * per bl = R) (hEb : E ≤ 16777216) (_hdb : -16777216 ≤ dl ∧ dl ≤ 16777216) :
    Calls Try.prog 41 #[.pointer (some ⟨bc, 0, none⟩), .pointer (some ⟨bo, o, none⟩), .int .i64 (I : Int), .int .i64 (E : Int), .int .i64 dl] w
      fun e w' => (∃ f : Int, e = .returned (.tuple #[.int .i64 (R : Int), .int .i64 f])) ∧ Blk w' gc (W64 (cpart ws m F S (Lw + 1 - F))) 25 ∧ Upd [gc] w w' := by
  have c0 : w.cell? ⟨bc, 0, none⟩ = some (.slice (some ⟨gc, 0, none⟩) m m) := by have := hc.c0; simpa using this
  have c2 : w.cell? ⟨bc, 2, none⟩ = some (.int .u8 (bl : Int)) := hc.c2
  have c3 : w.cell? ⟨bc, 3, none⟩ = some (.int .u8 ((6 - bl : Nat) : Int)) := hc.c3
  have o0 : w.cell? ⟨bo, o, none⟩ = some (.slice (some ⟨g, 0, none⟩) ws.length ws.length) := by subst ho; exact h.c0
  have o2 : w.cell? ⟨bo, o + 2, none⟩ = some (.int .u8 (bl : Int)) := by subst ho; exact h.c2
  have h6 := hc.h6
  have h3 := hc.h3
  have hand : bits BinOp.and IntKind.u8 ((6 - bl : Nat) : Int) 3 = ((6 - bl : Nat) : Int) := by
    rcases bl_cases h3 h6 with rfl | rfl | rfl | rfl <;> decide
  obtain ⟨pl, hpl⟩ : ∃ pl, 6 - bl = pl := ⟨_, rfl⟩
  rw [hpl] at c3 hand
  have HF := hid fun wx e => fields_any bc 0 bl wx h3 h6 (Cn_heap hc e).c1 (Cn_heap hc e).c2
  have e2 : (2 : Int) ^ pl = ((per bl : Nat) : Int) := by rw [← hpl]; simp [per]
  have hmin : min pl 64 = pl := by omega
  have hfw := ftop_lt h3 h6
  have hgcl := hc.row.lt
  have hbcl := hc.blk.lt
  have hp0 := per_pos bl
  have hp8 := per_le h3 h6
  have hml := hc.len
  rw [List.length_replicate] at hml
  have hwl := h.len
  have r1 : (I : Int) / ((per bl : Nat) : Int) = (F : Int) := by
    have : ((I : Nat) : Int) / ((per bl : Nat) : Int) = ((I / per bl : Nat) : Int) := by simp
    rw [this, hI, Nat.mul_div_cancel _ hp0]
  have r2 : ((E : Int) - 1) / ((per bl : Nat) : Int) = (Lw : Int) := by
    rw [show (E : Int) - 1 = ((E - 1 : Nat) : Int) by omega, ← hEL]; simp
  have r3 : dl / ((per bl : Nat) : Int) = D := by rw [hdl]; exact Int.mul_ediv_cancel _ (by omega)
  have r4 : IntKind.i64.wrap (((Lw : Int) + 1) * ((per bl : Nat) : Int)) = (R : Int) := by
    have e : ((Lw : Int) + 1) * ((per bl : Nat) : Int) = (R : Int) := by rw [← hR]; simp
    have hb : R ≤ 2097152 * 8 := by rw [← hR]; exact Nat.mul_le_mul (by omega) hp8
    rw [e]; exact IntWalk.i64_in _ (by omega)
  have r5 : wrap64 (((Lw : Int) + 1) * ((per bl : Nat) : Int)) = (R : Int) := by rw [← r4]; exact (IntWalk.i64_left _).symm
  obtain ⟨p', hp'⟩ : ∃ p', per bl = p' := ⟨_, rfl⟩
  rw [hp'] at e2 r1 r2 r3 r4 r5 hp0 hp8
  have HS := hid hS
  obtain ⟨nW, hnW⟩ : ∃ nW, Lw + 1 - F = nW := ⟨_, rfl⟩
  have k1 := fun wx => cut34_lh wx gc 0 m m (F : Int) ((Lw : Int) + 1) F (Lw + 1) rfl (by omega) (by omega) (by omega) (by omega)
  have k2 := fun wx => cut34_l wx g 0 ws.length ws.length ((F : Int) + D) S hS (by omega) (by omega)
  rw [hnW] at k1 hSl
  simp only [Nat.zero_add] at k1 k2
  have hnW0 : 1 ≤ nW := by omega
  have hFn : F + nW ≤ m := by omega
  have HC := hid hc
  have HO := hid h
  have hoff := hid ho
  have HNW := hid hnW
  rw [hnW]
  have hDb : -16777216 ≤ D ∧ D ≤ 16777216 := by omega
  clear hpl hp' hc h hI hEL hdl hR ho hnW hS
  have heq : ((bl : Int) == (bl : Int)) = true := by simp
  go_enter Try.func41, Try.ntmps41
  go_wp2
  go_quiet (fail)
  go_wp2_with (go_at_call 44; refine (HF.out _ (by rfl)).mono ?_; rintro e w1 ⟨rfl, cc, rfl⟩)
  obtain ⟨W1, hW1⟩ : ∃ W, ((w.drewN nq).alloc (Obj.cells cc 73)).alloc (.cells #[.int .u64 ((fbot bl : Nat) : Int), .int .u64 ((ftop bl : Nat) : Int), .int .u64 ((fdn bl : Nat) : Int), .int .u64 ((fup bl : Nat) : Int)] 73) = W := ⟨_, rfl⟩
  obtain ⟨bf, hbf⟩ : ∃ bf, w.heap.size + 1 = bf := ⟨_, rfl⟩
  rw [hW1, hbf]
  have HC1 : Hid (Cn W1 bc [] [] 50 gc (List.replicate m 0) bl) := by rw [← hW1]; exact hid (((HC.out.drewN nq).alloc _).alloc _)
  have HO1 : Hid (Cn W1 bo pre post T g ws bl) := by rw [← hW1]; exact hid (((HO.out.drewN nq).alloc _).alloc _)
  have HU1 : Hid (Upd [gc] w W1) := by rw [← hW1]; exact hid (((Upd.drewN _ _ nq).trans (Upd.alloc _ _ _)).trans (Upd.alloc _ _ _))
  have HB1 : Hid (Blk W1 bf [.int .u64 ((fbot bl : Nat) : Int), .int .u64 ((ftop bl : Nat) : Int), .int .u64 ((fdn bl : Nat) : Int), .int .u64 ((fup bl : Nat) : Int)] 73) := by
    rw [← hW1, ← hbf]
    have := Blk.new ((w.drewN nq).alloc (Obj.cells cc 73)) [.int .u64 ((fbot bl : Nat) : Int), .int .u64 ((ftop bl : Nat) : Int), .int .u64 ((fdn bl : Nat) : Int), .int .u64 ((fup bl : Nat) : Int)] 73
    simpa using hid this
  have hbfg : gc ≠ bf := by omega
  have d2 : W1.cell? ⟨bc, 2, none⟩ = some (.int .u8 (bl : Int)) := HC1.out.c2
  have q0 : W1.cell? ⟨bo, o, none⟩ = some (.slice (some ⟨g, 0, none⟩) ws.length ws.length) := by have := HO1.out.c0; rw [hoff.out] at this; exact this
  have q2 : W1.cell? ⟨bo, o + 2, none⟩ = some (.int .u8 (bl : Int)) := by have := HO1.out.c2; rw [hoff.out] at this; exact this
  clear hW1 hbf c0 c2 c3 o0 o2 hand
  go_quiet (fail)
  go_wp2
  go_loopw [11, 70] (fun f i wr => ∃ r : Nat, r ≤ nW ∧ i = .int .i64 r ∧ (∃ F0 : Int, f = .int .i64 F0) ∧ Blk wr gc (W64 (cpart ws m F S r)) 25 ∧ Upd [gc] W1 wr) (fun _ i _ => nW - (intOf i).toNat)
  case atStart =>
    refine ⟨0, Nat.zero_le _, rfl, ⟨0, rfl⟩, ?_, Upd.drewN _ _ _⟩
    rw [cpart_zero]; exact HC1.out.row.drewN _
  case round =>
    obtain ⟨r, hr, rfl, ⟨F0, rfl⟩, hrow, hu⟩ := hrel
    by_cases hlt : r < nW
    · have hbf2 := hu.blk HB1.out (by simp; omega)
      have f0 : wr.cell? ⟨bf, 0, none⟩ = some (.int .u64 ((fbot bl : Nat) : Int)) := hbf2.cellv rfl
      have f1 : wr.cell? ⟨bf, 1, none⟩ = some (.int .u64 ((ftop bl : Nat) : Int)) := hbf2.cellv rfl
      have f2 : wr.cell? ⟨bf, 2, none⟩ = some (.int .u64 ((fdn bl : Nat) : Int)) := hbf2.cellv rfl
      have f3 : wr.cell? ⟨bf, 3, none⟩ = some (.int .u64 ((fup bl : Nat) : Int)) := hbf2.cellv rfl
      have hx : wr.cell? ⟨g, S + r, none⟩ = some (.int .u64 ((ws.getD (S + r) 0 : Nat) : Int)) := (hu.blk HO1.out.row (by simp; omega)).cellv (W64_get ws (S + r) (by omega))
      have hXl := getD_lt HO1.out.lt (S + r)
      obtain ⟨X, hX⟩ : ∃ X, ws.getD (S + r) 0 = X := ⟨_, rfl⟩
      rw [hX] at hx hXl
      have HX := hid hX
      have HA := hid (fadd_any bl X r gc F nW (m - F) (cpart ws m F S r) wr h3 h6 hXl hlt (by omega) hrow (by rw [cpart_len]; omega) (by rw [cpart_getD]; exact if_neg (by omega)))
      have HUR := hid hu
      have HBF := hid hbf2
      clear hX hrow hu hbf2 k1 k2 r1 r2 r3 d2 q0 q2
      go_wp2_with (first | (go_at_call 45; refine HA.out.mono ?_; rintro e w5 ⟨⟨nw, rfl, hnw0, hnw1⟩, hrow5, hu5⟩; have g0 : w5.cell? ⟨bf, 0, none⟩ = some (.int .u64 ((fbot bl : Nat) : Int)) := (hu5.blk HBF.out (by simp; omega)).cellv rfl; have g1 : w5.cell? ⟨bf, 1, none⟩ = some (.int .u64 ((ftop bl : Nat) : Int)) := (hu5.blk HBF.out (by simp; omega)).cellv rfl; have g2 : w5.cell? ⟨bf, 2, none⟩ = some (.int .u64 ((fdn bl : Nat) : Int)) := (hu5.blk HBF.out (by simp; omega)).cellv rfl; have g3 : w5.cell? ⟨bf, 3, none⟩ = some (.int .u64 ((fup bl : Nat) : Int)) := (hu5.blk HBF.out (by simp; omega)).cellv rfl; have HR5 := hid hrow5; have HU5 := hid hu5; clear hrow5 hu5) | (go_at_call 46; refine (fcount_any bl nw _ h3 h6).mono ?_; rintro e w6 ⟨⟨cnt, rfl⟩, hu6⟩))
      go_roundw
      case rel =>
        refine ⟨r + 1, by omega, by go_num, ⟨_, rfl⟩, ?_, ?_⟩
        · have h1 := hu6.blk HR5.out (by simp)
          rw [← HX.out, cpart_set _ _ _ _ _ (by omega)] at h1
          exact h1
        · exact (HUR.out.trans HU5.out).trans (hu6.mono (by simp))
      case measure => simp [intOf]; omega
    · obtain rfl : r = nW := by omega
      go_wp2
      go_ret2
      exact ⟨⟨F0, rfl⟩, hrow, HU1.out.trans hu⟩
end Go.Proofs.Qxb6616660a
