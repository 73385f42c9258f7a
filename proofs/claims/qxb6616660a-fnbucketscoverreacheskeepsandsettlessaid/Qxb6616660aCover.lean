import Derived.Test.Qxb6616660aGrowz
namespace Go.Proofs.Qxb6616660a
open Go.RowKit Go.Qm

set_option maxHeartbeats 1000000 in
theorem cover_in {w : World} {b : Nat} {off lo hi fi : Int} {L : Nat} {cnt : Int → Nat} {g : Nat} {ws : List Nat} {bl : Nat} (h : Bk w b off lo hi fi L cnt g ws bl) (lo1 hi1 : Int) (h1 : off ≤ lo1) (h2 : hi1 < off + L) (h3 : lo1 ≤ hi1) :
    Calls Try.prog 29 #[.pointer (some ⟨b, 0, none⟩), .int .i64 lo1, .int .i64 hi1] w fun e w' => e = .returned (.tuple #[]) ∧ ∃ q, w' = w.drewN q := by
  have c0 : w.cell? ⟨b, 0, none⟩ = some (.int .i64 off) := h.blk8.cellv rfl
  have HL := hid fun wx e => len_cn (Cn_heap (w' := wx) h.cn e) 1 rfl L h.len
  have w6 := h.Lm
  have t1 : decide (lo1 < off) = false := by simp; omega
  have wr : IntKind.i64.wrap (hi1 - off) = hi1 - off := IntWalk.i64_in _ (by omega)
  have t2 : decide ((L : Int) ≤ hi1 - off) = false := by simp; omega
  clear h
  go_enter Try.func29, Try.ntmps29
  go_wp2
  go_quiet ((go_at_call 25; refine Calls.quiet_of (HL.out _ (by rfl))))
  go_wp2
  go_end0
  exact ⟨rfl, _, rfl⟩

set_option maxHeartbeats 1000000 in
theorem cover_out {w : World} {b : Nat} {off lo hi fi : Int} {L : Nat} {cnt : Int → Nat} {g : Nat} {ws : List Nat} {bl : Nat} (h : Bk w b off lo hi fi L cnt g ws bl) (lo1 hi1 lo2 hi2 : Int) (hmn : min lo1 lo = lo2) (hmx : max hi1 hi = hi2)
    (hw : hi2 - lo2 < 65536) (hw1 : -4611686018427387904 ≤ lo2) (hw2 : hi2 ≤ 4611686018427387904) (hout : lo1 < off ∨ off + L ≤ hi1) :
    Calls Try.prog 29 #[.pointer (some ⟨b, 0, none⟩), .int .i64 lo1, .int .i64 hi1] w
      fun e w' => e = .returned (.tuple #[]) ∧ ∃ (off' : Int) (L' g' : Nat) (ws' : List Nat), off' ≤ lo2 ∧ hi2 < off' + L' ∧ w.heap.size ≤ g' ∧ Bk w' b off' lo hi fi L' cnt g' ws' bl ∧ Upd [b] w w' := by
  have c0 : w.cell? ⟨b, 0, none⟩ = some (.int .i64 off) := h.blk8.cellv rfl
  have HL := hid fun wx e => len_cn (Cn_heap (w' := wx) h.cn e) 1 rfl L h.len
  have HG := hid fun wx e => grow_bk (Bk.heap (w' := wx) h e) lo1 hi1 lo2 hi2 hmn hmx hw hw1 hw2
  have w6 := h.Lm; have w3 := h.lh; have w4 := h.olo; have w5 := h.hiL
  have hb1 : hi1 ≤ 4611686018427387904 := by omega
  have hb2 : -4611686018427387904 ≤ lo1 := by omega
  by_cases hlo : lo1 < off
  · have t1 : decide (lo1 < off) = true := by simp; omega
    clear h hmn hmx hout
    go_enter Try.func29, Try.ntmps29
    go_wp2
    go_quiet (fail)
    go_wp2_with (go_at_call 34; refine (HG.out _ (by rfl)).mono ?_; rintro e w1 ⟨rfl, off', L', g', ws', m1, m2, m3, m4, m5⟩)
    go_end0
    exact ⟨rfl, off', L', g', ws', m1, m2, m3, m4, (Upd.drewN _ _ _).trans m5⟩
  · have t1 : decide (lo1 < off) = false := by simp; omega
    have hh : off + L ≤ hi1 := by omega
    have wr : IntKind.i64.wrap (hi1 - off) = hi1 - off := IntWalk.i64_in _ (by omega)
    have t2 : decide ((L : Int) ≤ hi1 - off) = true := by simp; omega
    clear h hmn hmx hout
    go_enter Try.func29, Try.ntmps29
    go_wp2
    go_quiet ((go_at_call 25; refine Calls.quiet_of (HL.out _ (by rfl))))
    go_wp2_with (go_at_call 34; refine (HG.out _ (by rfl)).mono ?_; rintro e w1 ⟨rfl, off', L', g', ws', m1, m2, m3, m4, m5⟩)
    go_end0
    exact ⟨rfl, off', L', g', ws', m1, m2, m3, m4, (Upd.drewN _ _ _).trans m5⟩

theorem cover_bk {w : World} {b : Nat} {off lo hi fi : Int} {L : Nat} {cnt : Int → Nat} {g : Nat} {ws : List Nat} {bl : Nat} (h : Bk w b off lo hi fi L cnt g ws bl) (lo1 hi1 lo2 hi2 : Int) (h1 : lo1 ≤ hi1) (hmn : min lo1 lo = lo2) (hmx : max hi1 hi = hi2)
    (hw : hi2 - lo2 < 65536) (hw1 : -4611686018427387904 ≤ lo2) (hw2 : hi2 ≤ 4611686018427387904) :
    Calls Try.prog 29 #[.pointer (some ⟨b, 0, none⟩), .int .i64 lo1, .int .i64 hi1] w
      fun e w' => e = .returned (.tuple #[]) ∧ ∃ (off' : Int) (L' g' : Nat) (ws' : List Nat), off' ≤ lo2 ∧ hi2 < off' + L' ∧ (g' = g ∨ w.heap.size ≤ g') ∧ Bk w' b off' lo hi fi L' cnt g' ws' bl ∧ Upd [b] w w' := by
  by_cases hout : lo1 < off ∨ off + L ≤ hi1
  · refine (cover_out h lo1 hi1 lo2 hi2 hmn hmx hw hw1 hw2 hout).mono ?_
    rintro e w' ⟨rfl, off', L', g', ws', m1, m2, m3, m4, m5⟩
    exact ⟨rfl, off', L', g', ws', m1, m2, Or.inr m3, m4, m5⟩
  · have w4 := h.olo; have w5 := h.hiL
    refine (cover_in h lo1 hi1 (by omega) (by omega) h1).mono ?_
    rintro e w' ⟨rfl, q, rfl⟩
    exact ⟨rfl, off, L, g, ws, by omega, by omega, Or.inl rfl, h.heap rfl, Upd.drewN _ _ _⟩

set_option maxHeartbeats 1000000 in
theorem cover_z {w : World} {b : Nat} (h : Bz w b) (lo hi : Int) (hlh : lo ≤ hi) (hw : hi - lo < 65536) (hw1 : -4611686018427387904 ≤ lo) (hw2 : hi ≤ 4611686018427387904) :
    Calls Try.prog 29 #[.pointer (some ⟨b, 0, none⟩), .int .i64 lo, .int .i64 hi] w
      fun e w' => e = .returned (.tuple #[]) ∧ ∃ (off' : Int) (L' g' : Nat) (ws' : List Nat), w.heap.size ≤ g' ∧ Bk w' b off' lo hi 0 L' (fun _ => 0) g' ws' 3 ∧ Upd [b] w w' := by
  have c0 : w.cell? ⟨b, 0, none⟩ = some (.int .i64 0) := Blk.cellv h rfl
  have HL := hid fun wx e => len_z (Bz.heap (w' := wx) h e)
  have HG := hid fun wx e => grow_z (Bz.heap (w' := wx) h e) lo hi hlh hw hw1 hw2
  by_cases hlo : lo < 0
  · have t1 : decide (lo < 0) = true := by simp; omega
    clear h
    go_enter Try.func29, Try.ntmps29
    go_wp2
    go_quiet (fail)
    go_wp2_with (go_at_call 34; refine (HG.out _ (by rfl)).mono ?_; rintro e w1 ⟨rfl, off', L', g', ws', m3, m4, m5⟩)
    go_end0
    exact ⟨rfl, off', L', g', ws', m3, m4, (Upd.drewN _ _ _).trans m5⟩
  · have t1 : decide (lo < 0) = false := by simp; omega
    have wr : IntKind.i64.wrap hi = hi := IntWalk.i64_in _ (by omega)
    have t2 : decide ((0 : Int) ≤ hi) = true := by simp; omega
    clear h
    go_enter Try.func29, Try.ntmps29
    go_wp2
    go_quiet ((go_at_call 25; refine Calls.quiet_of (HL.out _ (by rfl))))
    go_wp2_with (go_at_call 34; refine (HG.out _ (by rfl)).mono ?_; rintro e w1 ⟨rfl, off', L', g', ws', m3, m4, m5⟩)
    go_end0
    exact ⟨rfl, off', L', g', ws', m3, m4, (Upd.drewN _ _ _).trans m5⟩
end Go.Proofs.Qxb6616660a
