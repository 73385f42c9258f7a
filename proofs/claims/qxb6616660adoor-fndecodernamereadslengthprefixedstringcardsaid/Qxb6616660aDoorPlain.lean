import Derived.Test.Qxb6616660aDoorMem
namespace Go.Qm

/-- Digits of base 128, the least first. -/
def num : List Nat → Nat
  | [] => 0
  | d :: r => d + 128 * num r
theorem num_snoc : ∀ (xs : List Nat) (d : Nat), num (xs ++ [d]) = num xs + d * 2 ^ (7 * xs.length)
  | [], d => by simp [num]
  | x :: xs, d => by
    have e : 2 ^ (7 * (xs.length + 1)) = 128 * 2 ^ (7 * xs.length) := by rw [Nat.mul_add, Nat.pow_add, Nat.mul_comm]
    simp only [List.cons_append, num, num_snoc xs d, List.length_cons]
    rw [e, Nat.mul_add, Nat.mul_left_comm d 128]; omega
theorem num_lt : ∀ (xs : List Nat), (∀ d ∈ xs, d < 128) → num xs < 2 ^ (7 * xs.length)
  | [], _ => by simp [num]
  | x :: xs, h => by
    have e : 2 ^ (7 * (xs.length + 1)) = 128 * 2 ^ (7 * xs.length) := by rw [Nat.mul_add, Nat.pow_add, Nat.mul_comm]
    have h1 := num_lt xs (fun d hd => h d (List.mem_cons_of_mem _ hd))
    have h2 := h x (List.mem_cons_self ..)
    simp only [num, List.length_cons, e]; omega
theorem num_drop_le : ∀ (xs : List Nat) (k : Nat), num (xs.drop k) ≤ num xs
  | [], k => by simp
  | x :: xs, 0 => by simp
  | x :: xs, k + 1 => by
    have := num_drop_le xs k
    simp only [List.drop_succ_cons, num]; omega

/-- The digits of the first n bytes. -/
def dg (l : List UInt8) (n : Nat) : List Nat := (l.take n).map fun b => b.toNat % 128
theorem dg_lt (l : List UInt8) (n : Nat) : ∀ d ∈ dg l n, d < 128 := by
  intro d hd
  obtain ⟨b, _, rfl⟩ := List.mem_map.1 hd
  omega
theorem dg_length (l : List UInt8) (n : Nat) (h : n ≤ l.length) : (dg l n).length = n := by simp [dg, h]
theorem dg_succ (l : List UInt8) (n : Nat) (h : n < l.length) : dg l (n + 1) = dg l n ++ [(l.getD n 0).toNat % 128] := by
  unfold dg
  rw [List.take_succ_eq_append_getElem h, List.map_append]
  simp [List.getD, h]
theorem dg_get (l : List UInt8) (n i : Nat) (h : i < n) (hn : n ≤ l.length) : (dg l n).drop i = (l.getD i 0).toNat % 128 :: (dg l n).drop (i + 1) := by
  have hi : i < (dg l n).length := by rw [dg_length l n hn]; exact h
  rw [List.drop_eq_getElem_cons hi]
  congr 1
  simp [dg, List.getD, show i < l.length by omega]
theorem num_dg_lt (l : List UInt8) (n : Nat) (h : n ≤ l.length) : num (dg l n) < 2 ^ (7 * n) := by
  have := num_lt (dg l n) (dg_lt l n)
  rwa [dg_length l n h] at this
theorem num_dg_succ (l : List UInt8) (n : Nat) (h : n < l.length) : num (dg l (n + 1)) = num (dg l n) + (l.getD n 0).toNat % 128 * 2 ^ (7 * n) := by
  rw [dg_succ l n h, num_snoc, dg_length l n (by omega)]

/-- A number of base 128 ends at byte t. -/
def Term (l : List UInt8) (t : Nat) : Prop := t < l.length ∧ t ≤ 9 ∧ (l.getD t 0).toNat < 128 ∧ (t = 9 → (l.getD t 0).toNat ≤ 1) ∧ ∀ i, i < t → 128 ≤ (l.getD i 0).toNat

def lowAt (l : List UInt8) : Nat := l.findIdx (fun b => decide (b.toNat < 128))
theorem lowAt_eq {l : List UInt8} {t : Nat} (h1 : t < l.length) (h2 : (l.getD t 0).toNat < 128) (h3 : ∀ i, i < t → 128 ≤ (l.getD i 0).toNat) : lowAt l = t := by
  unfold lowAt
  have hle : lowAt l ≤ t := by
    rcases Nat.lt_or_ge t (lowAt l) with h | h
    · have := List.not_of_lt_findIdx (p := fun b : UInt8 => decide (b.toNat < 128)) h
      simp only [List.getD, List.getElem?_eq_getElem h1, Option.getD_some] at h2
      simp at this; omega
    · exact h
  have hge : t ≤ lowAt l := by
    rcases Nat.lt_or_ge (lowAt l) t with h | h
    · have hl : lowAt l < l.length := by omega
      have := List.findIdx_getElem (p := fun b : UInt8 => decide (b.toNat < 128)) (xs := l) (w := hl)
      have h4 := h3 (lowAt l) h
      simp only [List.getD, List.getElem?_eq_getElem hl, Option.getD_some] at h4
      simp only [decide_eq_true_eq] at this
      unfold lowAt at h4; omega
    · exact h
  unfold lowAt at hle hge; omega
theorem lowAt_ge {l : List UInt8} {i : Nat} (h : i < lowAt l) : 128 ≤ (l.getD i 0).toNat := by
  have := List.not_of_lt_findIdx (p := fun b : UInt8 => decide (b.toNat < 128)) h
  have hi : i < l.length := Nat.lt_of_lt_of_le h List.findIdx_le_length
  simp only [List.getD, List.getElem?_eq_getElem hi, Option.getD_some]
  simp at this; omega
theorem lowAt_lt {l : List UInt8} (h : lowAt l < l.length) : (l.getD (lowAt l) 0).toNat < 128 := by
  have := List.findIdx_getElem (p := fun b : UInt8 => decide (b.toNat < 128)) (xs := l) (w := h)
  simp only [List.getD, List.getElem?_eq_getElem h, Option.getD_some]
  simp only [decide_eq_true_eq] at this
  exact this

def term (l : List UInt8) : Option Nat :=
  if lowAt l < l.length ∧ lowAt l ≤ 9 ∧ (lowAt l = 9 → (l.getD 9 0).toNat ≤ 1) then some (lowAt l) else none
theorem term_of {l : List UInt8} {t : Nat} (h : Term l t) : term l = some t := by
  obtain ⟨h1, h2, h3, h4, h5⟩ := h
  have e := lowAt_eq h1 h3 h5
  unfold term
  rw [e, if_pos ⟨h1, h2, fun h => by have := h4 h; rwa [h] at this⟩]
theorem Term_of {l : List UInt8} {t : Nat} (h : term l = some t) : Term l t := by
  unfold term at h
  split at h
  · rename_i hc
    obtain ⟨h1, h2, h3⟩ := hc
    injection h with h
    subst h
    exact ⟨h1, h2, lowAt_lt h1, fun h9 => by have := h3 h9; rwa [h9], fun i hi => lowAt_ge hi⟩
  · cases h
theorem term_none {l : List UInt8} (h : ∀ t, ¬ Term l t) : term l = none := by
  cases e : term l with
  | none => rfl
  | some t => exact absurd (Term_of e) (h t)
theorem Term_num {l : List UInt8} {t : Nat} (h : Term l t) : num (dg l (t + 1)) < 18446744073709551616 := by
  obtain ⟨h1, h2, h3, h4, _⟩ := h
  rw [num_dg_succ l t h1]
  have hb := num_dg_lt l t (by omega)
  rcases Nat.lt_or_ge t 9 with ht | ht
  · have hp : 2 ^ (7 * t) * 128 ≤ 2 ^ 63 := by
      rw [show (128 : Nat) = 2 ^ 7 from rfl, ← Nat.pow_add]
      exact Nat.pow_le_pow_right (by decide) (by omega)
    have hm : (l.getD t 0).toNat % 128 * 2 ^ (7 * t) ≤ 127 * 2 ^ (7 * t) := Nat.mul_le_mul_right _ (by omega)
    omega
  · obtain rfl : t = 9 := by omega
    have := h4 rfl
    have hm : (l.getD 9 0).toNat % 128 * 2 ^ (7 * 9) ≤ 1 * 2 ^ (7 * 9) := Nat.mul_le_mul_right _ (by omega)
    have e : 2 ^ (7 * 9) = 9223372036854775808 := by decide
    rw [e] at hb hm ⊢
    omega

/-- What 'name' makes of the bytes l: did it read; the name; what is left. -/
def nm (l : List UInt8) : Bool × List UInt8 × List UInt8 :=
  match term l with
  | none => (false, [], l)
  | some t => if (l.drop (t + 1)).length < num (dg l (t + 1)) then (false, [], l.drop (t + 1))
    else (true, (l.drop (t + 1)).take (num (dg l (t + 1))), (l.drop (t + 1)).drop (num (dg l (t + 1))))
theorem nm_none {l : List UInt8} (h : term l = none) : nm l = (false, [], l) := by simp [nm, h]
theorem nm_short {l : List UInt8} {t : Nat} (h : term l = some t) (hs : l.length - (t + 1) < num (dg l (t + 1))) : nm l = (false, [], l.drop (t + 1)) := by
  simp [nm, h, hs]
theorem nm_ok {l : List UInt8} {t : Nat} (h : term l = some t) (hs : num (dg l (t + 1)) ≤ l.length - (t + 1)) :
    nm l = (true, (l.drop (t + 1)).take (num (dg l (t + 1))), (l.drop (t + 1)).drop (num (dg l (t + 1)))) := by
  simp [nm, h, show ¬ (l.length - (t + 1) < num (dg l (t + 1))) by omega]

end Go.Qm
