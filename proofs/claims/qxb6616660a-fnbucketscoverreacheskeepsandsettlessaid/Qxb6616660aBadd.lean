import Derived.Test.Qxb6616660aCover
namespace Go.Proofs.Qxb6616660a
open Go.RowKit Go.Qm

/-- One bucket's count grown. -/
def bump (cnt : Int → Nat) (i : Int) (n : Nat) : Int → Nat := fun k => if k = i then cnt i + n else cnt k
/-- The number of buckets that hold values, behind one more count. -/
def fill (cnt : Int → Nat) (fi : Int) (i : Int) : Int := if cnt i = 0 then fi + 1 else fi

/-- What 'add' leaves of the words. -/
theorem bump_rd {off : Int} {L : Nat} {cnt : Int → Nat} {ws ws2 : List Nat} {bl bl2 : Nat} {i : Int} {j n : Nat} (hj : i - off = (j : Int))
    (rd : ∀ k : Int, off ≤ k → k < off + L → fld bl ws (k - off).toNat = cnt k) (hjL : j < L)
    (hf : ∀ j', j' < L → fld bl2 ws2 j' = if j' = j then fld bl ws j + n else fld bl ws j') (k : Int) (h1 : off ≤ k) (h2 : k < off + L) :
    fld bl2 ws2 (k - off).toNat = bump cnt i n k := by
  rw [hf _ (by omega)]
  unfold bump
  have hi := rd i (by omega) (by omega)
  rw [hj, Int.toNat_natCast] at hi
  by_cases e : k = i
  · rw [if_pos e, if_pos (by omega), hi]
  · rw [if_neg e, if_neg (by omega)]
    exact rd k h1 h2

set_option maxRecDepth 100000 in
set_option maxHeartbeats 2000000 in
theorem bcount {w : World} {b : Nat} {off lo hi fi : Int} {L : Nat} {cnt : Int → Nat} {g : Nat} {ws : List Nat} {bl : Nat} (h : Bk w b off lo hi fi L cnt g ws bl) (i : Int) (h1 : off ≤ i) (h2 : i < off + L) (V : Nat) (hV : cnt i = V) :
    Calls Try.prog 30 #[.pointer (some ⟨b, 0, none⟩), .int .i64 i] w fun e w' => e = .returned (.int .u64 (V : Int)) ∧ ∃ q, w' = w.drewN q := by
  obtain ⟨j, hj⟩ : ∃ j : Nat, i - off = (j : Int) := ⟨(i - off).toNat, by omega⟩
  have c0 : w.cell? ⟨b, 0, none⟩ = some (.int .i64 off) := h.blk8.cellv rfl
  have HA := hid fun wx e => at_any (Cn_heap (w' := wx) h.cn e) 1 rfl j (by rw [h.len]; omega)
  have hf := h.rd i h1 h2
  rw [hj, Int.toNat_natCast] at hf
  rw [hf, hV] at HA
  have w6 := h.Lm
  have wj : IntKind.i64.wrap (j : Int) = (j : Int) := IntWalk.i64_in _ (by omega)
  clear h hV hf
  go_enter Try.func30, Try.ntmps30
  go_wp2
  go_quiet ((go_at_call 26; refine Calls.quiet_of (HA.out _ (by rfl))))
  go_wp2
  go_ret
  exact ⟨rfl, _, rfl⟩

theorem cn_ends2 {w : World} {b : Nat} {off lo hi fi : Int} {g : Nat} {ws : List Nat} {bl : Nat} (h : Cn w b [.int .i64 off] [.int .i64 lo, .int .i64 hi, .int .i64 fi] 56 g ws bl) (lo' hi' : Int) :
    Cn ((w.setCell ⟨b, 5, none⟩ (.int .i64 lo')).setCell ⟨b, 6, none⟩ (.int .i64 hi')) b [.int .i64 off] [.int .i64 lo', .int .i64 hi', .int .i64 fi] 56 g ws bl ∧ Upd [b] w ((w.setCell ⟨b, 5, none⟩ (.int .i64 lo')).setCell ⟨b, 6, none⟩ (.int .i64 hi')) := by
  have hne := h.ne
  refine ⟨⟨(h.blk.set 5 _).set 6 _, (h.row.set_other _ (Ne.symm hne)).set_other _ (Ne.symm hne), h.h3, h.h6, h.lt, h.len, hne⟩, (Upd.setCell w (Or.inl (by simp)) _).trans (Upd.setCell _ (Or.inl (by simp)) _)⟩
theorem cn_ends3 {w : World} {b : Nat} {off lo hi fi : Int} {g : Nat} {ws : List Nat} {bl : Nat} (h : Cn w b [.int .i64 off] [.int .i64 lo, .int .i64 hi, .int .i64 fi] 56 g ws bl) (fi' : Int) :
    Cn (w.setCell ⟨b, 7, none⟩ (.int .i64 fi')) b [.int .i64 off] [.int .i64 lo, .int .i64 hi, .int .i64 fi'] 56 g ws bl ∧ Upd [b] w (w.setCell ⟨b, 7, none⟩ (.int .i64 fi')) := by
  have hne := h.ne
  exact ⟨⟨h.blk.set 7 _, h.row.set_other _ (Ne.symm hne), h.h3, h.h6, h.lt, h.len, hne⟩, Upd.setCell w (Or.inl (by simp)) _⟩

set_option maxRecDepth 100000 in
set_option maxHeartbeats 2000000 in
/-- 'add' behind the cover, at a run that reaches i. -/
theorem badd_tail {w : World} {b : Nat} {lo hi fi : Int} {cnt : Int → Nat} {g : Nat} {bl : Nat} (i : Int) (n V : Nat) (lo2 hi2 : Int) (hmn : min lo i = lo2) (hmx : max hi i = hi2) (hV : cnt i = V) (hvn : V + n < 18446744073709551616)
    (HC : Calls Try.prog 29 #[.pointer (some ⟨b, 0, none⟩), .int .i64 i, .int .i64 i] w fun e w' => e = .returned (.tuple #[]) ∧ ∃ (off' : Int) (L' g' : Nat) (ws' : List Nat), off' ≤ lo2 ∧ hi2 < off' + L' ∧ (g' = g ∨ w.heap.size ≤ g') ∧ Bk w' b off' lo hi fi L' cnt g' ws' bl ∧ Upd [b] w w')
    (hw1 : -4611686018427387904 ≤ lo2) (hw2 : hi2 ≤ 4611686018427387904) (hfi : 0 ≤ fi) (hfi2 : fi ≤ 1000000000) :
    Calls Try.prog 28 #[.pointer (some ⟨b, 0, none⟩), .int .i64 i, .int .u64 (n : Int)] w fun e w' => e = .returned (.tuple #[]) ∧
      ∃ (off' : Int) (L' g' bl' : Nat) (ws' : List Nat), (g' = g ∨ w.heap.size ≤ g') ∧ Bk w' b off' lo2 hi2 (fill cnt fi i) L' (bump cnt i n) g' ws' bl' ∧ Upd [b, g] w w' := by
  have HC' := hid HC
  have HV := hid hV
  clear HC hV
  go_enter Try.func28, Try.ntmps28
  go_wp2_with (go_at_call 29; refine HC'.out.mono ?_; rintro e w1 ⟨rfl, off1, L1, g1, ws1, a1, a2, a3, hbk, hu1⟩)
  have w6 := hbk.Lm; have w3 := hbk.lh; have w4 := hbk.olo; have w5 := hbk.hiL
  obtain ⟨j, hj⟩ : ∃ j : Nat, i - off1 = (j : Int) := ⟨(i - off1).toNat, by omega⟩
  have wj : IntKind.i64.wrap (j : Int) = (j : Int) := IntWalk.i64_in _ (by omega)
  have d0 : w1.cell? ⟨b, 0, none⟩ = some (.int .i64 off1) := hbk.blk8.cellv rfl
  have hjL : j < L1 := by omega
  have HBK := hid hbk
  have HFV : Hid (fld bl ws1 j = V) := by
    have := hbk.rd i (by omega) (by omega)
    rw [hj, Int.toNat_natCast, HV.out] at this
    exact hid this
  clear hbk
  go_region_held3 (fun w' => w'.cell? ⟨b, 0, none⟩ = some (.int .i64 off1)) (simp [go_sem, *])
    (first
      | (go_at_call 27; refine (add_any (Cn_heap HBK.out.cn (by rfl)) 1 rfl j n L1 V HBK.out.len hjL (by omega) HFV.out hvn).mono ?_; rintro e w2 ⟨rfl, g2, ws2, bl2, cn2, l2, f2, u2, gg2⟩; have g0 : w2.cell? ⟨b, 0, none⟩ = some (.int .i64 off1) := cn2.blk.cellv rfl))
  have e5 : w2.cell? ⟨b, 5, none⟩ = some (.int .i64 lo) := cn2.blk.cellv rfl
  have e6 : w2.cell? ⟨b, 6, none⟩ = some (.int .i64 hi) := cn2.blk.cellv rfl
  have e7 : w2.cell? ⟨b, 7, none⟩ = some (.int .i64 fi) := cn2.blk.cellv rfl
  have z5 := cn2.blk.frozen 5
  have z6 := cn2.blk.frozen 6
  have z7 := cn2.blk.frozen 7
  have CN2 := hid cn2
  have L2 := hid l2
  have F2 := hid f2
  have U2 := hid u2
  have GG2 := hid gg2
  have A3 := hid a3
  clear cn2 l2 f2 u2 gg2 a3 g0 d0
  by_cases hV0 : V = 0
  · have t1 : ((V : Int) == 0) = true := by simp; omega
    go_wp2
    go_region
    go_end0
    have hbk := HBK.out
    have hz := hbk.zero
    have hfill : fill cnt fi i = fi + 1 := by unfold fill; rw [if_pos (by rw [HV.out]; exact hV0)]
    rw [hfill]
    obtain ⟨k0, u0⟩ := cn_ends3 CN2.out (fi + 1)
    obtain ⟨k1, u1⟩ := cn_ends2 k0 lo2 hi2
    have K2 := u0.trans u1
    refine ⟨rfl, off1, L1, g2, bl2, ws2, ?_, ⟨Cn_heap k1 rfl, L2.out, fun k x1 x2 => bump_rd hj hbk.rd hjL F2.out k x1 x2, ?_, by omega, by omega, by omega, hbk.mod, w6, hw1, hw2⟩, ?_⟩
    · rcases GG2.out with e | e
      · rw [e]; exact A3.out
      · exact Or.inr (Nat.le_trans hu1.size e)
    · intro k hk
      unfold bump
      have hne : k ≠ i := by omega
      rw [if_neg hne]
      exact hz k (by omega)
    · have v1 : Upd [b, g] w w1 := hu1.mono (by simp)
      have v2 : Upd [b, g] w w2 := v1.trans' ((Upd.drewN _ _ _).trans U2.out) (by
        intro y hy
        simp at hy
        rcases hy with rfl | rfl
        · exact Or.inl (by simp)
        · rcases A3.out with e | e
          · exact Or.inl (by simp [e])
          · exact Or.inr e)
      exact (v2.trans (K2.mono (by simp))).trans (Upd.drew _ _)
  · have t1 : ((V : Int) == 0) = false := by simp; omega
    go_wp2
    go_region
    go_end0
    have hbk := HBK.out
    have hz := hbk.zero
    have hfill : fill cnt fi i = fi := by unfold fill; rw [if_neg (by rw [HV.out]; exact hV0)]
    rw [hfill]
    obtain ⟨k1, K2⟩ := cn_ends2 CN2.out lo2 hi2
    refine ⟨rfl, off1, L1, g2, bl2, ws2, ?_, ⟨Cn_heap k1 rfl, L2.out, fun k x1 x2 => bump_rd hj hbk.rd hjL F2.out k x1 x2, ?_, by omega, by omega, by omega, hbk.mod, w6, hw1, hw2⟩, ?_⟩
    · rcases GG2.out with e | e
      · rw [e]; exact A3.out
      · exact Or.inr (Nat.le_trans hu1.size e)
    · intro k hk
      unfold bump
      have hne : k ≠ i := by omega
      rw [if_neg hne]
      exact hz k (by omega)
    · have v1 : Upd [b, g] w w1 := hu1.mono (by simp)
      have v2 : Upd [b, g] w w2 := v1.trans' ((Upd.drewN _ _ _).trans U2.out) (by
        intro y hy
        simp at hy
        rcases hy with rfl | rfl
        · exact Or.inl (by simp)
        · rcases A3.out with e | e
          · exact Or.inl (by simp [e])
          · exact Or.inr e)
      exact (v2.trans (K2.mono (by simp))).trans (Upd.drew _ _)
end Go.Proofs.Qxb6616660a
