import Derived.Test.Qxb6616660aDoorPlain
namespace Go.Qm

theorem getD_take {l : List UInt8} {k i : Nat} (h : i < k) : (l.take k).getD i 0 = l.getD i 0 := by
  simp [List.getD, h]
theorem getD_append {l m : List UInt8} {i : Nat} (h : i < l.length) : (l ++ m).getD i 0 = l.getD i 0 := by
  simp [List.getD, List.getElem?_append, h]
theorem Term_take {l : List UInt8} {t k : Nat} (h : Term (l.take k) t) : Term l t := by
  obtain ⟨h1, h2, h3, h4, h5⟩ := h
  have hk : t < k ∧ t < l.length := by simp at h1; omega
  refine ⟨hk.2, h2, ?_, ?_, ?_⟩
  · rwa [getD_take hk.1] at h3
  · intro h9; have := h4 h9; rwa [getD_take hk.1] at this
  · intro i hi; have := h5 i hi; rwa [getD_take (by omega)] at this
theorem Term_take_mk {l : List UInt8} {t k : Nat} (h : Term l t) (hk : t < k) : Term (l.take k) t := by
  obtain ⟨h1, h2, h3, h4, h5⟩ := h
  refine ⟨by simp; omega, h2, ?_, ?_, ?_⟩
  · rwa [getD_take hk]
  · intro h9; rw [getD_take hk]; exact h4 h9
  · intro i hi; rw [getD_take (by omega)]; exact h5 i hi
theorem Term_append {l m : List UInt8} {t : Nat} (h : Term l t) : Term (l ++ m) t := by
  obtain ⟨h1, h2, h3, h4, h5⟩ := h
  refine ⟨by simp; omega, h2, ?_, ?_, ?_⟩
  · rwa [getD_append h1]
  · intro h9; rw [getD_append h1]; exact h4 h9
  · intro i hi; rw [getD_append (by omega)]; exact h5 i hi
theorem dg_take {l : List UInt8} {n k : Nat} (h : n ≤ k) : dg (l.take k) n = dg l n := by
  unfold dg; rw [List.take_take, Nat.min_eq_left h]
theorem dg_append {l m : List UInt8} {n : Nat} (h : n ≤ l.length) : dg (l ++ m) n = dg l n := by
  unfold dg; rw [List.take_append_of_le_length h]

theorem nm_take_none {l : List UInt8} (h : term l = none) (k : Nat) : nm (l.take k) = (false, [], l.take k) := by
  refine nm_none (term_none fun t ht => ?_)
  have := term_of (Term_take ht)
  rw [h] at this; cases this
/-- Every cut of l short of t + 1 + v bytes is refused. -/
theorem nm_take_short {l : List UInt8} {t v : Nat} (h : term l = some t) (hv : num (dg l (t + 1)) = v) (k : Nat) (hk : k < t + 1 + v) (hkl : k ≤ l.length) : (nm (l.take k)).1 = false ∧ (nm (l.take k)).2.1 = [] := by
  have hT := Term_of h
  rcases Nat.lt_or_ge t k with hlt | hge
  · have h2 := term_of (Term_take_mk hT hlt)
    have hd : dg (l.take k) (t + 1) = dg l (t + 1) := dg_take (by omega)
    rw [nm_short h2 (by rw [hd, hv, List.length_take]; omega)]
    exact ⟨rfl, rfl⟩
  · have h2 : term (l.take k) = none := term_none fun t' ht' => by
      have h3 := term_of (Term_take ht')
      rw [h] at h3
      have h4 := Option.some.inj h3
      have h5 := ht'.1
      simp at h5; omega
    rw [nm_none h2]
    exact ⟨rfl, rfl⟩
theorem nm_take_long {l : List UInt8} {t v : Nat} (h : term l = some t) (hv : num (dg l (t + 1)) = v) (k : Nat) (hk : t + 1 + v ≤ k) (hkl : k ≤ l.length) : nm (l.take k) = (true, (l.drop (t + 1)).take v, (l.take k).drop (t + 1 + v)) := by
  have hT := Term_of h
  have h2 := term_of (Term_take_mk hT (k := k) (by omega))
  have hd : dg (l.take k) (t + 1) = dg l (t + 1) := dg_take (by omega)
  rw [nm_ok h2 (by rw [hd, hv, List.length_take]; omega), hd, hv, List.drop_drop]
  congr 2
  rw [List.drop_take, List.take_take, Nat.min_eq_left (by omega)]
theorem nm_whole {l : List UInt8} {t v : Nat} (h : term l = some t) (hv : num (dg l (t + 1)) = v) (hvl : t + 1 + v ≤ l.length) : nm l = (true, (l.drop (t + 1)).take v, l.drop (t + 1 + v)) := by
  have := nm_take_long h hv l.length hvl (Nat.le_refl _)
  rwa [List.take_length] at this
theorem nm_more {l m : List UInt8} {t v : Nat} (h : term l = some t) (hv : num (dg l (t + 1)) = v) (hvl : t + 1 + v ≤ l.length) : nm (l ++ m) = (true, (l.drop (t + 1)).take v, l.drop (t + 1 + v) ++ m) := by
  have hT := Term_of h
  have h2 := term_of (Term_append (m := m) hT)
  have hd : dg (l ++ m) (t + 1) = dg l (t + 1) := dg_append (by omega)
  rw [nm_ok h2 (by rw [hd, hv, List.length_append]; omega), hd, hv, List.drop_drop, List.drop_append_of_le_length (by omega), List.drop_append_of_le_length (by omega)]
  congr 2
  rw [List.take_append_of_le_length (by rw [List.length_drop]; omega)]

theorem term_big {l : List UInt8} (_h : lowAt l < l.length) (h9 : 9 < lowAt l) : term l = none := by
  unfold term; rw [if_neg (by omega)]
theorem term_end {l : List UInt8} (h : lowAt l = l.length) : term l = none := by
  unfold term; rw [if_neg (by omega)]
theorem term_nine {l : List UInt8} (h : lowAt l = 9) (hb : 1 < (l.getD 9 0).toNat) : term l = none := by
  unfold term; rw [if_neg (by intro hc; have := hc.2.2 h; omega)]
theorem term_yes {l : List UInt8} (h : lowAt l < l.length) (h9 : lowAt l ≤ 9) (hb : lowAt l = 9 → (l.getD 9 0).toNat ≤ 1) : term l = some (lowAt l) := by
  unfold term; rw [if_pos ⟨h, h9, hb⟩]
theorem lowAt_le (l : List UInt8) : lowAt l ≤ l.length := List.findIdx_le_length

end Go.Qm
