import Derived.Test.Qxb6616660aBadd
namespace Go.Proofs.Qxb6616660a
open Go.RowKit Go.Qm

/-- A run's plain state: bounds, filled, counts. -/
structure St where
  lo : Int
  hi : Int
  fi : Int
  cnt : Int → Nat

/-- One more count. -/
def step : Option St → Int → Nat → St
  | none, i, n => ⟨i, i, fill (fun _ => 0) 0 i, bump (fun _ => 0) i n⟩
  | some s, i, n => ⟨min s.lo i, max s.hi i, fill s.cnt s.fi i, bump s.cnt i n⟩
/-- A cover. -/
def covS (lo hi : Int) : Option St → St
  | none => ⟨lo, hi, 0, fun _ => 0⟩
  | some s => s
def cntO : Option St → Int → Nat
  | none, _ => 0
  | some s, i => s.cnt i
def fiO : Option St → Int
  | none => 0
  | some s => s.fi

/-- The run in block b (its words in block g) is in the state s. -/
def BS (w : World) (b g : Nat) : Option St → Prop
  | none => Bz w b ∧ g = b
  | some s => ∃ (off : Int) (L : Nat) (ws : List Nat) (bl : Nat), Bk w b off s.lo s.hi s.fi L s.cnt g ws bl

theorem BS.heap {w w' : World} {b g : Nat} {s : Option St} (h : BS w b g s) (e : w'.heap = w.heap) : BS w' b g s := by
  cases s with
  | none => exact ⟨h.1.heap e, h.2⟩
  | some s => obtain ⟨off, L, ws, bl, k⟩ := h; exact ⟨off, L, ws, bl, k.heap e⟩
theorem BS.lt {w : World} {b g : Nat} {s : Option St} (h : BS w b g s) : b < w.heap.size ∧ g < w.heap.size := by
  cases s with
  | none => obtain ⟨h1, rfl⟩ := h; exact ⟨Blk.lt h1, Blk.lt h1⟩
  | some s => obtain ⟨off, L, ws, bl, k⟩ := h; exact ⟨k.cn.blk.lt, k.cn.row.lt⟩
theorem BS.upd {w w' : World} {b g : Nat} {s : Option St} {S : List Nat} (h : BS w b g s) (hu : Upd S w w') (h1 : b ∉ S) (h2 : g ∉ S) : BS w' b g s := by
  cases s with
  | none => obtain ⟨k1, k2⟩ := h; exact ⟨hu.blk k1 h1, k2⟩
  | some s => obtain ⟨off, L, ws, bl, k⟩ := h; exact ⟨off, L, ws, bl, k.upd hu h1 h2⟩

theorem badd_bs {w : World} {b g : Nat} {s : Option St} (h : BS w b g s) (i : Int) (n : Nat) (t : St) (ht : step s i n = t)
    (hw : t.hi - t.lo < 65536) (hw1 : -4611686018427387904 ≤ t.lo) (hw2 : t.hi ≤ 4611686018427387904) (hv : cntO s i + n < 18446744073709551616) (hfi : 0 ≤ fiO s) (hfi2 : fiO s ≤ 1000000000) :
    Calls Try.prog 28 #[.pointer (some ⟨b, 0, none⟩), .int .i64 i, .int .u64 (n : Int)] w fun e w' => e = .returned (.tuple #[]) ∧
      ∃ g', (g' = g ∨ w.heap.size ≤ g') ∧ BS w' b g' (some t) ∧ Upd [b, g] w w' := by
  subst ht
  cases s with
  | none =>
    obtain ⟨hz, rfl⟩ := h
    refine (badd_tail (b := g) (lo := i) (hi := i) (fi := 0) (cnt := fun _ => 0) (g := g) (bl := 3) i n 0 i i (by omega) (by omega) rfl (by simpa [cntO] using hv) ?_ hw1 hw2 (by omega) (by omega)).mono ?_
    · refine (cover_z hz i i (by omega) (by omega) hw1 hw2).mono ?_
      rintro e w' ⟨rfl, off', L', g', ws', k1, k2, k3⟩
      exact ⟨rfl, off', L', g', ws', k2.olo, k2.hiL, Or.inr k1, k2, k3⟩
    · rintro e w' ⟨rfl, off', L', g', bl', ws', k1, k2, k3⟩
      exact ⟨rfl, g', k1, ⟨off', L', ws', bl', k2⟩, k3⟩
  | some s =>
    obtain ⟨off, L, ws, bl, k⟩ := h
    refine (badd_tail (b := b) (lo := s.lo) (hi := s.hi) (fi := s.fi) (cnt := s.cnt) (g := g) (bl := bl) i n (s.cnt i) (min s.lo i) (max s.hi i) rfl rfl rfl hv ?_ hw1 hw2 hfi hfi2).mono ?_
    · refine (cover_bk k i i (min s.lo i) (max s.hi i) (by omega) (by omega) (by omega) hw hw1 hw2).mono ?_
      rintro e w' ⟨rfl, off', L', g', ws', k1, k2, k3, k4, k5⟩
      exact ⟨rfl, off', L', g', ws', k1, k2, k3, k4, k5⟩
    · rintro e w' ⟨rfl, off', L', g', bl', ws', k1, k2, k3⟩
      exact ⟨rfl, g', k1, ⟨off', L', ws', bl', k2⟩, k3⟩

theorem zadd {w : World} {b g : Nat} {s : Option St} (h : BS w b g s) (i : Int) (n : Nat) (t : St) (ht : step s i n = t)
    (hw : t.hi - t.lo < 65536) (hw1 : -4611686018427387904 ≤ t.lo) (hw2 : t.hi ≤ 4611686018427387904) (hv : cntO s i + n < 18446744073709551616) (hfi : 0 ≤ fiO s) (hfi2 : fiO s ≤ 1000000000) :
    Calls Try.prog 15 #[.pointer (some ⟨b, 0, none⟩), .int .i64 i, .int .u64 (n : Int)] w fun e w' => e = .returned (.tuple #[]) ∧
      ∃ g', (g' = g ∨ w.heap.size ≤ g') ∧ BS w' b g' (some t) ∧ Upd [b, g] w w' := by
  have H := hid (badd_bs h i n t ht hw hw1 hw2 hv hfi hfi2)
  clear h ht hw hw1 hw2 hv hfi hfi2
  go_enter Try.func15, Try.ntmps15
  go_wp2_with (go_at_call 28; refine H.out.mono ?_; rintro e w1 ⟨rfl, k⟩)
  go_end0
  exact ⟨rfl, k⟩

/-- 'cover', with what it reaches. -/
theorem zcover {w : World} {b g : Nat} {s : Option St} (h : BS w b g s) (lo hi lo2 hi2 : Int) (hlh : lo ≤ hi) (hs : ∀ x, s = some x → lo2 ≤ x.lo ∧ x.hi ≤ hi2) (h1 : lo2 ≤ lo) (h2 : hi ≤ hi2)
    (hw : hi2 - lo2 < 65536) (hw1 : -4611686018427387904 ≤ lo2) (hw2 : hi2 ≤ 4611686018427387904) :
    Calls Try.prog 17 #[.pointer (some ⟨b, 0, none⟩), .int .i64 lo, .int .i64 hi] w fun e w' => e = .returned (.tuple #[]) ∧
      ∃ (off : Int) (L : Nat) (g' : Nat) (ws : List Nat) (bl : Nat), off ≤ lo ∧ hi < off + L ∧ (g' = g ∨ w.heap.size ≤ g') ∧ Bk w' b off (covS lo hi s).lo (covS lo hi s).hi (covS lo hi s).fi L (covS lo hi s).cnt g' ws bl ∧ Upd [b] w w' := by
  have H : Calls Try.prog 29 #[.pointer (some ⟨b, 0, none⟩), .int .i64 lo, .int .i64 hi] w fun e w' => e = .returned (.tuple #[]) ∧
      ∃ (off : Int) (L : Nat) (g' : Nat) (ws : List Nat) (bl : Nat), off ≤ lo ∧ hi < off + L ∧ (g' = g ∨ w.heap.size ≤ g') ∧ Bk w' b off (covS lo hi s).lo (covS lo hi s).hi (covS lo hi s).fi L (covS lo hi s).cnt g' ws bl ∧ Upd [b] w w' := by
    cases s with
    | none =>
      refine (cover_z h.1 lo hi hlh (by omega) (by omega) (by omega)).mono ?_
      rintro e w' ⟨rfl, off', L', g', ws', k1, k2, k3⟩
      exact ⟨rfl, off', L', g', ws', 3, k2.olo, k2.hiL, Or.inr k1, k2, k3⟩
    | some s =>
      obtain ⟨off, L, ws, bl, k⟩ := h
      obtain ⟨m1, m2⟩ := hs s rfl
      refine (cover_bk k lo hi (min lo s.lo) (max hi s.hi) hlh rfl rfl (by omega) (by omega) (by omega)).mono ?_
      rintro e w' ⟨rfl, off', L', g', ws', k1, k2, k3, k4, k5⟩
      exact ⟨rfl, off', L', g', ws', bl, by omega, by omega, k3, k4, k5⟩
  have H' := hid H
  clear H h hs
  go_enter Try.func17, Try.ntmps17
  go_wp2_with (go_at_call 29; refine H'.out.mono ?_; rintro e w1 ⟨rfl, k⟩)
  go_end0
  exact ⟨rfl, k⟩

theorem zcover_in {w : World} {b : Nat} {off lo hi fi : Int} {L : Nat} {cnt : Int → Nat} {g : Nat} {ws : List Nat} {bl : Nat} (h : Bk w b off lo hi fi L cnt g ws bl) (lo1 hi1 : Int) (h1 : off ≤ lo1) (h2 : hi1 < off + L) (h3 : lo1 ≤ hi1) :
    Calls Try.prog 17 #[.pointer (some ⟨b, 0, none⟩), .int .i64 lo1, .int .i64 hi1] w fun e w' => e = .returned (.tuple #[]) ∧ ∃ q, w' = w.drewN q := by
  have H := hid (cover_in h lo1 hi1 h1 h2 h3)
  clear h
  go_enter Try.func17, Try.ntmps17
  go_wp2_with (go_at_call 29; refine H.out.mono ?_; rintro e w1 ⟨rfl, k⟩)
  go_end0
  exact ⟨rfl, k⟩

theorem znew (w : World) : Calls Try.prog 14 #[] w fun e w' => ∃ b, w.heap.size ≤ b ∧ e = .returned (.pointer (some ⟨b, 0, none⟩)) ∧ BS w' b b none ∧ Upd [] w w' := by
  go_enter Try.func14, Try.ntmps14
  go_wp2
  go_ret
  refine ⟨w.heap.size, Nat.le_refl _, rfl, ⟨?_, rfl⟩, Upd.alloc _ _ _⟩
  exact Blk.new' w _ 56

theorem zfilled {w : World} {b : Nat} {fi : Int} (c7 : w.cell? ⟨b, 7, none⟩ = some (.int .i64 fi)) :
    Calls Try.prog 16 #[.pointer (some ⟨b, 0, none⟩)] w fun e w' => e = .returned (.int .i64 fi) ∧ ∃ q, w' = w.drewN q := by
  go_enter Try.func16, Try.ntmps16
  go_wp2
  go_ret
  exact ⟨rfl, 0, rfl⟩
theorem zoffset {w : World} {b : Nat} {off : Int} (c0 : w.cell? ⟨b, 0, none⟩ = some (.int .i64 off)) :
    Calls Try.prog 18 #[.pointer (some ⟨b, 0, none⟩)] w fun e w' => e = .returned (.int .i64 off) ∧ ∃ q, w' = w.drewN q := by
  go_enter Try.func18, Try.ntmps18
  go_wp2
  go_ret
  exact ⟨rfl, 0, rfl⟩
theorem zroom {w : World} {b : Nat} {off lo hi fi : Int} {L : Nat} {cnt : Int → Nat} {g : Nat} {ws : List Nat} {bl : Nat} (h : Bk w b off lo hi fi L cnt g ws bl) :
    Calls Try.prog 19 #[.pointer (some ⟨b, 0, none⟩)] w fun e w' => e = .returned (.int .i64 (L : Int)) ∧ ∃ q, w' = w.drewN q := by
  have H := hid (len_cn h.cn 1 rfl L h.len)
  clear h
  go_enter Try.func19, Try.ntmps19
  go_wp2_with (go_at_call 25; refine H.out.mono ?_; rintro e w1 ⟨rfl, q, rfl⟩)
  go_ret
  exact ⟨rfl, _, rfl⟩
theorem zlohi {w : World} {b : Nat} {lo hi : Int} (c5 : w.cell? ⟨b, 5, none⟩ = some (.int .i64 lo)) (c6 : w.cell? ⟨b, 6, none⟩ = some (.int .i64 hi)) :
    Calls Try.prog 20 #[.pointer (some ⟨b, 0, none⟩)] w fun e w' => e = .returned (.tuple #[.int .i64 lo, .int .i64 hi]) ∧ ∃ q, w' = w.drewN q := by
  go_enter Try.func20, Try.ntmps20
  go_wp2
  go_quiet (fail)
  go_wp2
  go_ret2
  exact ⟨rfl, _, rfl⟩
theorem zcount {w : World} {b : Nat} {off lo hi fi : Int} {L : Nat} {cnt : Int → Nat} {g : Nat} {ws : List Nat} {bl : Nat} (h : Bk w b off lo hi fi L cnt g ws bl) (i : Int) (h1 : off ≤ i) (h2 : i < off + L) (V : Nat) (hV : cnt i = V) :
    Calls Try.prog 21 #[.pointer (some ⟨b, 0, none⟩), .int .i64 i] w fun e w' => e = .returned (.int .u64 (V : Int)) ∧ ∃ q, w' = w.drewN q := by
  have H := hid (bcount h i h1 h2 V hV)
  clear h
  go_enter Try.func21, Try.ntmps21
  go_wp2_with (go_at_call 30; refine H.out.mono ?_; rintro e w1 ⟨rfl, q, rfl⟩)
  go_ret
  exact ⟨rfl, _, rfl⟩
end Go.Proofs.Qxb6616660a
