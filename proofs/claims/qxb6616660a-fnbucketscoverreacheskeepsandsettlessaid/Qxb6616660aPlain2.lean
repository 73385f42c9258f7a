import Derived.Test.Qxb6616660aPlain
import Derived.Lib.BitFns
import Derived.Lib.ItoaNum
namespace Go.Qm

/-- Field i, of W bits, of the word X. -/
def field (W i X : Nat) : Nat := X / 2 ^ (i * W) % 2 ^ W

theorem field_lt (W i X : Nat) : field W i X < 2 ^ W := Nat.mod_lt _ (Nat.two_pow_pos _)
theorem field_zero (W i : Nat) : field W i 0 = 0 := by simp [field]

theorem fld_field (bl : Nat) (ws : List Nat) (j : Nat) : fld bl ws j = field (wid bl) (j % per bl) (ws.getD (j / per bl) 0) := rfl

theorem field_add (W i i' X n : Nat) (h : field W i X + n < 2 ^ W) :
    field W i' (X + n * 2 ^ (i * W)) = if i' = i then field W i X + n else field W i' X := by
  unfold field at h ⊢
  have hW := Nat.two_pow_pos W
  have hq : (X + n * 2 ^ (i * W)) / 2 ^ (i * W) = X / 2 ^ (i * W) + n := Nat.add_mul_div_right _ _ (Nat.two_pow_pos _)
  have hdiv : (X / 2 ^ (i * W) + n) / 2 ^ W = X / 2 ^ (i * W) / 2 ^ W := by
    have e := Nat.div_add_mod (X / 2 ^ (i * W)) (2 ^ W)
    generalize X / 2 ^ (i * W) = Q at *
    have : Q + n = (Q % 2 ^ W + n) + 2 ^ W * (Q / 2 ^ W) := by omega
    rw [this, Nat.add_mul_div_left _ _ hW, Nat.div_eq_of_lt h, Nat.zero_add]
  by_cases hi : i' = i
  · subst hi
    rw [if_pos rfl, hq]
    have e := Nat.div_add_mod (X / 2 ^ (i' * W)) (2 ^ W)
    generalize X / 2 ^ (i' * W) = Q at *
    have : Q + n = (Q % 2 ^ W + n) + 2 ^ W * (Q / 2 ^ W) := by omega
    rw [this, Nat.add_mul_mod_self_left, Nat.mod_eq_of_lt h]
  · rw [if_neg hi]
    rcases Nat.lt_or_ge i i' with hlt | hge
    · have e : 2 ^ (i' * W) = 2 ^ (i * W) * 2 ^ W * 2 ^ ((i' - i - 1) * W) := by
        rw [← Nat.pow_add, ← Nat.pow_add]
        congr 1
        have : i' * W = (i + 1 + (i' - i - 1)) * W := by congr 1; omega
        rw [this, Nat.add_mul, Nat.add_mul, Nat.one_mul]
      rw [e, ← Nat.div_div_eq_div_mul, ← Nat.div_div_eq_div_mul, ← Nat.div_div_eq_div_mul, ← Nat.div_div_eq_div_mul, hq, hdiv]
    · have e : 2 ^ (i * W) = 2 ^ (i' * W) * (2 ^ W * 2 ^ ((i - i' - 1) * W)) := by
        rw [← Nat.pow_add, ← Nat.pow_add]
        congr 1
        have : i * W = (i' + (1 + (i - i' - 1))) * W := by congr 1; omega
        rw [this, Nat.add_mul, Nat.add_mul, Nat.one_mul]
      rw [e, Nat.mul_left_comm, Nat.add_mul_div_left _ _ (Nat.two_pow_pos _), Nat.mul_left_comm, Nat.add_mul_mod_self_left]

theorem add_lt64 {W i X n : Nat} (hX : X < 18446744073709551616) (hi : i * W + W ≤ 64) (h : field W i X + n < 2 ^ W) : X + n * 2 ^ (i * W) < 18446744073709551616 := by
  unfold field at h
  have ha := Nat.two_pow_pos (i * W)
  have hW := Nat.two_pow_pos W
  have e64 : (18446744073709551616 : Nat) = 2 ^ (i * W) * (2 ^ W * 2 ^ (64 - (i * W + W))) := by
    rw [← Nat.pow_add, ← Nat.pow_add, show i * W + (W + (64 - (i * W + W))) = 64 by omega]
  rw [e64] at hX ⊢
  generalize 2 ^ (i * W) = a at *
  generalize 2 ^ W = m at *
  generalize 2 ^ (64 - (i * W + W)) = c at *
  have h1 : X / a < m * c := by rw [Nat.div_lt_iff_lt_mul ha, Nat.mul_comm]; exact hX
  have h2 : X / a / m < c := by rw [Nat.div_lt_iff_lt_mul hW, Nat.mul_comm]; exact h1
  have e := Nat.div_add_mod (X / a) m
  have h3 : X / a + n < m * c := by
    have : m * (X / a / m + 1) ≤ m * c := Nat.mul_le_mul_left m h2
    rw [Nat.mul_add, Nat.mul_one] at this
    omega
  have e2 := Nat.div_add_mod X a
  have h4 := Nat.mod_lt X ha
  have h5 : a * (X / a + n + 1) ≤ a * (m * c) := Nat.mul_le_mul_left a h3
  rw [Nat.mul_add, Nat.mul_add, Nat.mul_one, Nat.mul_comm a n] at h5
  omega

/-- n fields of W bits, side by side. -/
def pack (W : Nat) (f : Nat → Nat) : Nat → Nat
  | 0 => 0
  | n + 1 => pack W f n + f n * 2 ^ (n * W)
theorem pack_lt {W : Nat} {f : Nat → Nat} (hf : ∀ q, f q < 2 ^ W) : ∀ n, pack W f n < 2 ^ (n * W)
  | 0 => by simp [pack]
  | n + 1 => by
    have h1 := pack_lt hf n
    have h2 := hf n
    have e : 2 ^ ((n + 1) * W) = 2 ^ W * 2 ^ (n * W) := by rw [Nat.add_mul, Nat.one_mul, Nat.pow_add, Nat.mul_comm]
    have h3 : (f n + 1) * 2 ^ (n * W) ≤ 2 ^ W * 2 ^ (n * W) := Nat.mul_le_mul_right _ h2
    rw [Nat.add_mul, Nat.one_mul] at h3
    simp only [pack, e]; omega
theorem field_of_lt {W n X : Nat} (h : X < 2 ^ (n * W)) : field W n X = 0 := by
  unfold field; rw [Nat.div_eq_of_lt h, Nat.zero_mod]
theorem field_pack {W : Nat} {f : Nat → Nat} (hf : ∀ q, f q < 2 ^ W) (i : Nat) : ∀ n, field W i (pack W f n) = if i < n then f i else 0
  | 0 => by simp [pack, field]
  | n + 1 => by
    have h0 := field_of_lt (pack_lt hf n)
    rw [pack, field_add W n i _ (f n) (by rw [h0, Nat.zero_add]; exact hf n), h0, field_pack hf i n, Nat.zero_add]
    by_cases h : i = n
    · subst h; simp
    · rw [if_neg h]
      by_cases h' : i < n
      · rw [if_pos h', if_pos (by omega)]
      · rw [if_neg h', if_neg (by omega)]

theorem getD_set (ws : List Nat) (k k' X : Nat) : (ws.set k X).getD k' 0 = if k' = k ∧ k < ws.length then X else ws.getD k' 0 := by
  simp only [List.getD, List.getElem?_set]
  by_cases h : k = k'
  · subst h
    by_cases h2 : k < ws.length
    · simp [h2]
    · simp [h2]
  · simp [h, Ne.symm h]

theorem fld_set (bl : Nat) (ws : List Nat) (k X j : Nat) : fld bl (ws.set k X) j = if j / per bl = k ∧ k < ws.length then field (wid bl) (j % per bl) X else fld bl ws j := by
  rw [fld_field, getD_set]
  split
  · rfl
  · rfl

/-- A count grown in place: the others stay. -/
theorem fld_grow {bl : Nat} {ws : List Nat} {j n : Nat} (hj : j / per bl < ws.length) (h : fld bl ws j + n < 2 ^ wid bl) (j' : Nat) :
    fld bl (ws.set (j / per bl) (ws.getD (j / per bl) 0 + n * 2 ^ (j % per bl * wid bl))) j' = if j' = j then fld bl ws j + n else fld bl ws j' := by
  rw [fld_set]
  by_cases hd : j' / per bl = j / per bl
  · rw [if_pos ⟨hd, hj⟩, field_add _ _ _ _ _ (by rw [← fld_field]; exact h)]
    have e : (j' % per bl = j % per bl) ↔ j' = j := by
      constructor
      · intro hm
        have h1 := Nat.div_add_mod j' (per bl)
        have h2 := Nat.div_add_mod j (per bl)
        rw [hd, hm] at h1; omega
      · rintro rfl; rfl
    by_cases hm : j' = j
    · rw [if_pos (e.2 hm), if_pos hm, ← fld_field]
    · rw [if_neg (fun h => hm (e.1 h)), if_neg hm, fld_field, hd]
  · rw [if_neg (fun h => hd h.1), if_neg (fun h => hd (by rw [h]))]
theorem grow_lt64 {bl : Nat} {ws : List Nat} {j n : Nat} (h6 : bl ≤ 6) (hX : ws.getD (j / per bl) 0 < 18446744073709551616) (h : fld bl ws j + n < 2 ^ wid bl) :
    ws.getD (j / per bl) 0 + n * 2 ^ (j % per bl * wid bl) < 18446744073709551616 :=
  add_lt64 hX (shift_le h6) (by rw [← fld_field]; exact h)

/-- The word t of the same counts in fields of 2^bl' bits. -/
def wAs (bl : Nat) (ws : List Nat) (bl' j : Nat) : Nat := pack (wid bl') (fun q => fld bl ws (j + q)) (per bl')
theorem fld_lt_wider {bl bl' : Nat} (h : bl ≤ bl') (ws : List Nat) (j : Nat) : fld bl ws j < 2 ^ wid bl' := by
  have h1 : fld bl ws j < 2 ^ wid bl := field_lt _ _ _
  have h2 : 2 ^ wid bl ≤ 2 ^ wid bl' := Nat.pow_le_pow_right (by decide) (Nat.pow_le_pow_right (by decide) h)
  omega
theorem wAs_lt {bl bl' : Nat} (h : bl ≤ bl') (h6 : bl' ≤ 6) (ws : List Nat) (j : Nat) : wAs bl ws bl' j < 18446744073709551616 := by
  have := pack_lt (f := fun q => fld bl ws (j + q)) (W := wid bl') (fun q => fld_lt_wider h ws _) (per bl')
  rw [per_wid h6] at this
  exact this
/-- All the words. -/
def widened (bl : Nat) (ws : List Nat) (bl' m : Nat) : List Nat := (List.range m).map fun t => wAs bl ws bl' (t * per bl')
theorem fld_widened {bl bl' : Nat} (h : bl ≤ bl') (ws : List Nat) (m j : Nat) (hj : j < m * per bl') : fld bl' (widened bl ws bl' m) j = fld bl ws j := by
  have hp := per_pos bl'
  have hk : j / per bl' < m := by rw [Nat.div_lt_iff_lt_mul hp]; exact hj
  have e : (widened bl ws bl' m).getD (j / per bl') 0 = wAs bl ws bl' (j / per bl' * per bl') := by
    simp [widened, List.getD, hk]
  rw [fld_field, e, wAs, field_pack (fun q => fld_lt_wider h ws _), if_pos (Nat.mod_lt _ hp)]
  congr 1
  have := Nat.div_add_mod j (per bl')
  rw [Nat.mul_comm] at this; exact this

end Go.Qm
