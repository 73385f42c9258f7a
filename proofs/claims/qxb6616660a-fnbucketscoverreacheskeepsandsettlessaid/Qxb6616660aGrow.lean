import Derived.Test.Qxb6616660aBk
import Derived.WalkLawsBesides
namespace Go.Proofs.Qxb6616660a
open Go.RowKit Go.Qm

set_option maxHeartbeats 400000 in
theorem rs_any (i : Int) (w : World) (h0 : -9223372036854775808 ≤ i) (h1 : i ≤ 9223372036854775807) :
    Calls Try.prog 39 #[.int .i64 i] w fun e w' => e = .returned (.int .i64 (i - i % 8)) ∧ w' = w := by
  have hr := i64_andNot7 i h0 h1
  go_enter Try.func39, Try.ntmps39
  go_wp2
  go_ret
  exact ⟨rfl, rfl⟩

/-- The numbers of 'grow'. -/
theorem grow_nums {lo2 hi2 : Int} {sp n : Nat} (_hsp : hi2 - lo2 + 1 = (sp : Int)) (hn : n = max (sp + sp / 4) 16) (h1 : 1 ≤ sp) (h2 : sp ≤ 65536) :
    sp ≤ n ∧ 16 ≤ n ∧ n ≤ 81920 ∧ max ((sp : Int) + (sp : Int) / 4) 16 = (n : Int) ∧ min (n : Int) 1048576 = (n : Int) := by
  omega

set_option maxRecDepth 100000 in
set_option maxHeartbeats 2000000 in
theorem grow_bk {w : World} {b : Nat} {off lo hi fi : Int} {L : Nat} {cnt : Int → Nat} {g : Nat} {ws : List Nat} {bl : Nat} (h : Bk w b off lo hi fi L cnt g ws bl) (lo1 hi1 lo2 hi2 : Int) (hmn : min lo1 lo = lo2) (hmx : max hi1 hi = hi2)
    (hw : hi2 - lo2 < 65536) (hw1 : -4611686018427387904 ≤ lo2) (hw2 : hi2 ≤ 4611686018427387904) :
    Calls Try.prog 34 #[.pointer (some ⟨b, 0, none⟩), .int .i64 lo1, .int .i64 hi1] w
      fun e w' => e = .returned (.tuple #[]) ∧ ∃ (off' : Int) (L' g' : Nat) (ws' : List Nat), off' ≤ lo2 ∧ hi2 < off' + L' ∧ w.heap.size ≤ g' ∧ Bk w' b off' lo hi fi L' cnt g' ws' bl ∧ Upd [b] w w' := by
  have H := hid (empty_no h)
  have c5 : w.cell? ⟨b, 5, none⟩ = some (.int .i64 lo) := h.blk8.cellv rfl
  have c6 : w.cell? ⟨b, 6, none⟩ = some (.int .i64 hi) := h.blk8.cellv rfl
  have w3 := h.lh
  obtain ⟨sp, hsp⟩ : ∃ sp : Nat, hi2 - lo2 + 1 = (sp : Int) := ⟨(hi2 - lo2 + 1).toNat, by omega⟩
  obtain ⟨n, hn⟩ : ∃ n, n = max (sp + sp / 4) 16 := ⟨_, rfl⟩
  obtain ⟨n1, n2, n3, n4, n5⟩ := grow_nums hsp hn (by omega) (by omega)
  have hsp' : hi2 - lo2 ≤ 65536 := by omega
  have hsp0 : 0 ≤ hi2 - lo2 := by omega
  by_cases hbel : lo1 < lo
  · obtain ⟨lo3, hlo3⟩ : ∃ lo3, hi2 - (n : Int) + 1 = lo3 := ⟨_, rfl⟩
    obtain ⟨start, hst⟩ : ∃ start, lo3 - lo3 % 8 = start := ⟨_, rfl⟩
    obtain ⟨n', hn'⟩ : ∃ n' : Nat, (n : Int) + lo3 - start = (n' : Int) := ⟨((n : Int) + lo3 - start).toNat, by omega⟩
    have HR := hid fun wx => rs_any lo3 wx (by omega) (by omega)
    rw [hst] at HR
    have HM := hid fun wx e => move_any (Bk.heap (w' := wx) h e) start n' (by omega) (by omega) (by omega) (by omega)
    have hfin : Hid (start ≤ lo2 ∧ hi2 < start + n') := hid (by omega)
    have hb3 : -4611686018427487904 ≤ lo3 := by omega
    have hb4 : lo3 ≤ 4611686018427387904 := by omega
    have hb5 : start ≤ lo3 := by omega
    have hb6 : lo3 ≤ start + 7 := by omega
    clear hst h hn
    go_enter Try.func34, Try.ntmps34
    go_wp2_with (go_at_call 38; refine H.out.mono ?_; rintro e w1 ⟨rfl, q, rfl⟩)
    go_quiet (fail)
    go_wp2_with (first | (go_at_call 39; refine (HR.out _).mono ?_; rintro e w1 ⟨rfl, rfl⟩) | (go_at_call 40; refine (HM.out _ (by rfl)).mono ?_; rintro e w1 ⟨rfl, L', g', ws', m1, m2, m3, m4⟩))
    go_end0
    have hf := hfin.out
    exact ⟨rfl, start, L', g', ws', hf.1, by omega, m2, m3, (Upd.drewN _ _ _).trans m4⟩
  · obtain ⟨start, hst⟩ : ∃ start, lo2 - lo2 % 8 = start := ⟨_, rfl⟩
    obtain ⟨n', hn'⟩ : ∃ n' : Nat, (n : Int) + lo2 - start = (n' : Int) := ⟨((n : Int) + lo2 - start).toNat, by omega⟩
    have HR := hid fun wx => rs_any lo2 wx (by omega) (by omega)
    rw [hst] at HR
    have HM := hid fun wx e => move_any (Bk.heap (w' := wx) h e) start n' (by omega) (by omega) (by omega) (by omega)
    have hfin : Hid (start ≤ lo2 ∧ hi2 < start + n') := hid (by omega)
    have hb5 : start ≤ lo2 := by omega
    have hb6 : lo2 ≤ start + 7 := by omega
    have hdec : decide (lo1 < lo) = false := by simp; omega
    clear hst h hn
    go_enter Try.func34, Try.ntmps34
    go_wp2_with (go_at_call 38; refine H.out.mono ?_; rintro e w1 ⟨rfl, q, rfl⟩)
    go_quiet (fail)
    go_wp2_with (first | (go_at_call 39; refine (HR.out _).mono ?_; rintro e w1 ⟨rfl, rfl⟩) | (go_at_call 40; refine (HM.out _ (by rfl)).mono ?_; rintro e w1 ⟨rfl, L', g', ws', m1, m2, m3, m4⟩))
    go_end0
    have hf := hfin.out
    exact ⟨rfl, start, L', g', ws', hf.1, by omega, m2, m3, (Upd.drewN _ _ _).trans m4⟩
end Go.Proofs.Qxb6616660a
