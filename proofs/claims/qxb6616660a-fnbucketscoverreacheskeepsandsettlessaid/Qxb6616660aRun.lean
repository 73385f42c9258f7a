import Derived.Test.Qxb6616660aModel
namespace Go.Proofs.Qxb6616660a
open Go.RowKit Go.Qm

/-- The run behind the script's first k adds. -/
def stN (aI : Nat → Int) (aN : Nat → Nat) : Nat → Option St
  | 0 => none
  | k + 1 => some (step (stN aI aN k) (aI k) (aN k))

theorem cnt_step (s : Option St) (i : Int) (n : Nat) : (step s i n).cnt = bump (cntO s) i n := by
  cases s <;> rfl
theorem fi_step (s : Option St) (i : Int) (n : Nat) : (step s i n).fi = fill (cntO s) (fiO s) i := by
  cases s <;> rfl
theorem fill_le (c : Int → Nat) (f i : Int) : f ≤ fill c f i ∧ fill c f i ≤ f + 1 := by unfold fill; split <;> omega

theorem st_cnt (aI : Nat → Int) (aN : Nat → Nat) (k : Nat) : cntO (stN aI aN k) = csN aI aN k := by
  induction k with
  | zero => rfl
  | succ k ih => show (step (stN aI aN k) (aI k) (aN k)).cnt = bump _ _ _; rw [cnt_step, ih]
theorem st_fi (aI : Nat → Int) (aN : Nat → Nat) (k : Nat) : 0 ≤ fiO (stN aI aN k) ∧ fiO (stN aI aN k) ≤ k := by
  induction k with
  | zero => exact ⟨Int.le_refl _, Int.le_refl _⟩
  | succ k ih =>
    show 0 ≤ (step (stN aI aN k) (aI k) (aN k)).fi ∧ (step (stN aI aN k) (aI k) (aN k)).fi ≤ _
    rw [fi_step]
    have := fill_le (cntO (stN aI aN k)) (fiO (stN aI aN k)) (aI k)
    omega
/-- The bounds lie in the window, and with lo and hi they are the window. -/
theorem st_ends (lo hi : Int) (aI : Nat → Int) (aN : Nat → Nat) (k : Nat) :
    (stN aI aN k = none ∧ k = 0 ∧ mnN lo aI k = lo ∧ mxN hi aI k = hi) ∨ ∃ x, stN aI aN k = some x ∧ 0 < k ∧ x.lo ≤ x.hi ∧ mnN lo aI k = min x.lo lo ∧ mxN hi aI k = max x.hi hi := by
  induction k with
  | zero => exact Or.inl ⟨rfl, rfl, rfl, rfl⟩
  | succ k ih =>
    right
    refine ⟨_, rfl, by omega, ?_⟩
    rcases ih with ⟨h1, h2, h3, h4⟩ | ⟨x, h1, h2, h5, h3, h4⟩
    · rw [h1]
      show aI k ≤ aI k ∧ min _ _ = min (aI k) lo ∧ max _ _ = max (aI k) hi
      rw [h3, h4]; omega
    · rw [h1]
      show min x.lo (aI k) ≤ max x.hi (aI k) ∧ min _ _ = min (min x.lo (aI k)) lo ∧ max _ _ = max (max x.hi (aI k)) hi
      rw [h3, h4]; omega
theorem mn_le (lo : Int) (aI : Nat → Int) (len : Nat) : mnN lo aI len ≤ lo ∧ ∀ k, k < len → mnN lo aI len ≤ aI k := by
  induction len with
  | zero => exact ⟨Int.le_refl _, fun k hk => by omega⟩
  | succ n ih =>
    show min _ _ ≤ lo ∧ ∀ k, k < n + 1 → min (mnN lo aI n) (aI n) ≤ aI k
    refine ⟨by omega, fun k hk => ?_⟩
    rcases Nat.lt_succ_iff_lt_or_eq.1 hk with h | rfl
    · have := ih.2 k h; omega
    · omega
theorem mx_ge (hi : Int) (aI : Nat → Int) (len : Nat) : hi ≤ mxN hi aI len ∧ ∀ k, k < len → aI k ≤ mxN hi aI len := by
  induction len with
  | zero => exact ⟨Int.le_refl _, fun k hk => by omega⟩
  | succ n ih =>
    show hi ≤ max _ _ ∧ ∀ k, k < n + 1 → aI k ≤ max (mxN hi aI n) (aI n)
    refine ⟨by omega, fun k hk => ?_⟩
    rcases Nat.lt_succ_iff_lt_or_eq.1 hk with h | rfl
    · have := ih.2 k h; omega
    · omega

/-- A state inside the window. -/
def InW (mn mx : Int) (s : Option St) : Prop := ∀ x, s = some x → mn ≤ x.lo ∧ x.hi ≤ mx ∧ x.lo ≤ x.hi
theorem InW.none (mn mx : Int) : InW mn mx none := fun _ h => by cases h
theorem InW.step {mn mx : Int} {s : Option St} (h : InW mn mx s) {i : Int} {n : Nat} (h1 : mn ≤ i) (h2 : i ≤ mx) : InW mn mx (some (step s i n)) := by
  intro x hx
  cases hx
  cases s with
  | none => exact ⟨h1, h2, Int.le_refl _⟩
  | some y => obtain ⟨a, b, c⟩ := h y rfl; show mn ≤ min _ _ ∧ max _ _ ≤ mx ∧ min y.lo i ≤ max y.hi i; omega
theorem InW.cov {mn mx : Int} {s : Option St} (h : InW mn mx s) {lo hi : Int} (h1 : mn ≤ lo) (h2 : hi ≤ mx) (h3 : lo ≤ hi) : InW mn mx (some (covS lo hi s)) := by
  intro x hx
  cases hx
  cases s with
  | none => exact ⟨h1, h2, h3⟩
  | some y => exact h y rfl
theorem InW.stN {mn mx : Int} {aI : Nat → Int} {aN : Nat → Nat} {len : Nat} (hin : ∀ k, k < len → mn ≤ aI k ∧ aI k ≤ mx) (k : Nat) (hk : k ≤ len) : InW mn mx (stN aI aN k) := by
  induction k with
  | zero => exact InW.none _ _
  | succ k ih => exact (ih (by omega)).step (hin k (by omega)).1 (hin k (by omega)).2

/-- 'add' inside the window. -/
theorem zadd_in {w : World} {b g : Nat} {s : Option St} (h : BS w b g s) {mn mx : Int} (hs : InW mn mx s) (i : Int) (n : Nat) (h1 : mn ≤ i) (h2 : i ≤ mx) (hM : mx - mn < 65536) (hw1 : -4611686018427387903 ≤ mn) (hw2 : mx ≤ 4611686018427387903)
    (hv : cntO s i + n < 18446744073709551616) (hfi : 0 ≤ fiO s) (hfi2 : fiO s ≤ 1000000000) :
    Calls Try.prog 15 #[.pointer (some ⟨b, 0, none⟩), .int .i64 i, .int .u64 (n : Int)] w fun e w' => e = .returned (.tuple #[]) ∧
      ∃ g', (g' = g ∨ w.heap.size ≤ g') ∧ BS w' b g' (some (step s i n)) ∧ Upd [b, g] w w' := by
  obtain ⟨a, c, d⟩ := hs.step (n := n) h1 h2 _ rfl
  exact zadd h i n _ rfl (by omega) (by omega) (by omega) hv hfi hfi2
theorem zcover_bs {w : World} {b g : Nat} {s : Option St} (h : BS w b g s) {mn mx : Int} (hs : InW mn mx s) (lo hi : Int) (h1 : mn ≤ lo) (h2 : hi ≤ mx) (hlh : lo ≤ hi) (hM : mx - mn < 65536) (hw1 : -4611686018427387903 ≤ mn) (hw2 : mx ≤ 4611686018427387903) :
    Calls Try.prog 17 #[.pointer (some ⟨b, 0, none⟩), .int .i64 lo, .int .i64 hi] w fun e w' => e = .returned (.tuple #[]) ∧
      ∃ g', (g' = g ∨ w.heap.size ≤ g') ∧ BS w' b g' (some (covS lo hi s)) ∧ Upd [b, g] w w' := by
  refine (zcover h lo hi mn mx hlh (fun x hx => ⟨(hs x hx).1, (hs x hx).2.1⟩) h1 h2 hM (by omega) (by omega)).mono ?_
  rintro e w' ⟨rfl, off, L, g', ws, bl, k1, k2, k3, k4, k5⟩
  exact ⟨rfl, g', k3, ⟨off, L, ws, bl, k4⟩, k5.mono (by simp)⟩

/-- Two runs x and y and the model, apart from each other and from what stood in w0. -/
structure Two (w0 w : World) (gm : Nat) (md : List Nat) (bx gx bY gy : Nat) (sx sy : Option St) : Prop where
  x : BS w bx gx sx
  y : BS w bY gy sy
  m : Blk w gm (W64 md) 25
  d1 : bx ≠ bY
  d2 : bx ≠ gy
  d3 : gx ≠ bY
  d4 : gx ≠ gy
  m1 : gm ≠ bx
  m2 : gm ≠ gx
  m3 : gm ≠ bY
  m4 : gm ≠ gy
  n1 : w0.heap.size ≤ bx
  n2 : w0.heap.size ≤ gx
  n3 : w0.heap.size ≤ bY
  n4 : w0.heap.size ≤ gy
  u : Upd [] w0 w
section
variable {w0 w w' : World} {gm bx gx bY gy : Nat} {md : List Nat} {sx sy : Option St}
theorem Two.swap (h : Two w0 w gm md bx gx bY gy sx sy) : Two w0 w gm md bY gy bx gx sy sx :=
  ⟨h.y, h.x, h.m, h.d1.symm, h.d3.symm, h.d2.symm, h.d4.symm, h.m3, h.m4, h.m1, h.m2, h.n3, h.n4, h.n1, h.n2, h.u⟩
theorem Two.heap (h : Two w0 w gm md bx gx bY gy sx sy) (e : w'.heap = w.heap) (hu : Upd [] w w') : Two w0 w' gm md bx gx bY gy sx sy :=
  ⟨h.x.heap e, h.y.heap e, Blk_heap h.m e, h.d1, h.d2, h.d3, h.d4, h.m1, h.m2, h.m3, h.m4, h.n1, h.n2, h.n3, h.n4, h.u.trans hu⟩
theorem Two.drewN (h : Two w0 w gm md bx gx bY gy sx sy) (q : Nat) : Two w0 (w.drewN q) gm md bx gx bY gy sx sy := h.heap rfl (Upd.drewN _ _ _)
theorem Two.stepx (h : Two w0 w gm md bx gx bY gy sx sy) {g' : Nat} {s' : Option St} (hg : g' = gx ∨ w.heap.size ≤ g') (hx : BS w' bx g' s') (hu : Upd [bx, gx] w w') : Two w0 w' gm md bx g' bY gy s' sy := by
  have l1 := h.y.lt
  have l2 := h.m.lt
  have s0 := h.u.size
  refine ⟨hx, h.y.upd hu (by simp [h.d1.symm, h.d3.symm]) (by simp [h.d2.symm, h.d4.symm]), hu.blk h.m (by simp [h.m1, h.m2]), h.d1, h.d2, ?_, ?_, h.m1, ?_, h.m3, h.m4, h.n1, ?_, h.n3, h.n4, h.u.trans' hu (by
    intro z hz
    simp at hz
    rcases hz with rfl | rfl
    · exact Or.inr h.n1
    · exact Or.inr h.n2)⟩
  · rcases hg with rfl | hg
    · exact h.d3
    · omega
  · rcases hg with rfl | hg
    · exact h.d4
    · omega
  · rcases hg with rfl | hg
    · exact h.m2
    · omega
  · rcases hg with rfl | hg
    · exact h.n2
    · omega
theorem Two.stepy (h : Two w0 w gm md bx gx bY gy sx sy) {g' : Nat} {s' : Option St} (hg : g' = gy ∨ w.heap.size ≤ g') (hx : BS w' bY g' s') (hu : Upd [bY, gy] w w') : Two w0 w' gm md bx gx bY g' sx s' := (h.swap.stepx hg hx hu).swap
end

/-- The plain law: a cover ahead of two adds changes nothing. -/
theorem plain6 (lo hi : Int) (hlh : lo ≤ hi) (aI : Nat → Int) (aN : Nat → Nat) (len : Nat) (m1 m2 : Nat) :
    let s := stN aI aN len
    let x := step (some (step (some (covS lo hi s)) lo m1)) hi m2
    let y := step (some (step s lo m1)) hi m2
    x.lo = mnN lo aI len ∧ x.hi = mxN hi aI len ∧ y.lo = mnN lo aI len ∧ y.hi = mxN hi aI len ∧ x.fi = y.fi ∧ x.cnt = bump (bump (csN aI aN len) lo m1) hi m2 ∧ y.cnt = bump (bump (csN aI aN len) lo m1) hi m2 := by
  intro s x y
  have hc : cntO s = csN aI aN len := st_cnt aI aN len
  have hcov : cntO (some (covS lo hi s)) = cntO s := by cases hs : s <;> rfl
  have hfov : fiO (some (covS lo hi s)) = fiO s := by cases hs : s <;> rfl
  have k1 : cntO (some (step (some (covS lo hi s)) lo m1)) = bump (cntO s) lo m1 := by show (step _ _ _).cnt = _; rw [cnt_step, hcov]
  have k2 : cntO (some (step s lo m1)) = bump (cntO s) lo m1 := by show (step _ _ _).cnt = _; rw [cnt_step]
  have f1 : fiO (some (step (some (covS lo hi s)) lo m1)) = fill (cntO s) (fiO s) lo := by show (step _ _ _).fi = _; rw [fi_step, hcov, hfov]
  have f2 : fiO (some (step s lo m1)) = fill (cntO s) (fiO s) lo := by show (step _ _ _).fi = _; rw [fi_step]
  have hx : x.cnt = bump (bump (csN aI aN len) lo m1) hi m2 := by show (step _ _ _).cnt = _; rw [cnt_step, k1, hc]
  have hy : y.cnt = bump (bump (csN aI aN len) lo m1) hi m2 := by show (step _ _ _).cnt = _; rw [cnt_step, k2, hc]
  have hf : x.fi = y.fi := by show (step _ _ _).fi = (step _ _ _).fi; rw [fi_step, fi_step, k1, k2, f1, f2]
  rcases st_ends lo hi aI aN len with ⟨h1, h2, h3, h4⟩ | ⟨z, h1, h2, h5, h3, h4⟩
  · have hs : s = none := h1
    refine ⟨?_, ?_, ?_, ?_, hf, hx, hy⟩
    · rw [h3]; show (step (some (step (some (covS lo hi s)) lo m1)) hi m2).lo = _; rw [hs]; show min (min lo lo) hi = lo; omega
    · rw [h4]; show (step (some (step (some (covS lo hi s)) lo m1)) hi m2).hi = _; rw [hs]; show max (max hi lo) hi = hi; omega
    · rw [h3]; show (step (some (step s lo m1)) hi m2).lo = _; rw [hs]; show min lo hi = lo; omega
    · rw [h4]; show (step (some (step s lo m1)) hi m2).hi = _; rw [hs]; show max lo hi = hi; omega
  · have hs : s = some z := h1
    refine ⟨?_, ?_, ?_, ?_, hf, hx, hy⟩
    · rw [h3]; show (step (some (step (some (covS lo hi s)) lo m1)) hi m2).lo = _; rw [hs]; show min (min z.lo lo) hi = _; omega
    · rw [h4]; show (step (some (step (some (covS lo hi s)) lo m1)) hi m2).hi = _; rw [hs]; show max (max z.hi lo) hi = _; omega
    · rw [h3]; show (step (some (step s lo m1)) hi m2).lo = _; rw [hs]; show min (min z.lo lo) hi = _; omega
    · rw [h4]; show (step (some (step s lo m1)) hi m2).hi = _; rw [hs]; show max (max z.hi lo) hi = _; omega
end Go.Proofs.Qxb6616660a
