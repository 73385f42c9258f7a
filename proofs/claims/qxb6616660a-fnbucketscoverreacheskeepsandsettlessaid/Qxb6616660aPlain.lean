import Derived.Test.Qxb6616660aMem
namespace Go.Qm

/-- The width of a field, in bits. -/
def wid (bl : Nat) : Nat := 2 ^ bl
/-- The fields in a word. -/
def per (bl : Nat) : Nat := 2 ^ (6 - bl)
/-- The largest count of a field. -/
def full (bl : Nat) : Nat := 2 ^ wid bl - 1
/-- Count j of the words ws. -/
def fld (bl : Nat) (ws : List Nat) (j : Nat) : Nat := ws.getD (j / per bl) 0 / 2 ^ (j % per bl * wid bl) % 2 ^ wid bl

theorem per3 : per 3 = 8 := rfl
theorem per4 : per 4 = 4 := rfl
theorem per5 : per 5 = 2 := rfl
theorem per6 : per 6 = 1 := rfl
theorem wid3 : wid 3 = 8 := rfl
theorem wid4 : wid 4 = 16 := rfl
theorem wid5 : wid 5 = 32 := rfl
theorem wid6 : wid 6 = 64 := rfl

theorem bl_cases {bl : Nat} (h3 : 3 ≤ bl) (h6 : bl ≤ 6) : bl = 3 ∨ bl = 4 ∨ bl = 5 ∨ bl = 6 := by omega
theorem per_pos (bl : Nat) : 0 < per bl := Nat.two_pow_pos _
theorem wid_pos (bl : Nat) : 0 < wid bl := Nat.two_pow_pos _
theorem per_wid {bl : Nat} (h6 : bl ≤ 6) : per bl * wid bl = 64 := by
  unfold per wid
  rw [← Nat.pow_add, show 6 - bl + bl = 6 by omega]
theorem per_le {bl : Nat} (h3 : 3 ≤ bl) (h6 : bl ≤ 6) : per bl ≤ 8 := by
  rcases bl_cases h3 h6 with rfl | rfl | rfl | rfl <;> decide
theorem shift_le {bl j : Nat} (h6 : bl ≤ 6) : j % per bl * wid bl + wid bl ≤ 64 := by
  have h := Nat.mod_lt j (per_pos bl)
  have e := per_wid h6
  calc j % per bl * wid bl + wid bl = (j % per bl + 1) * wid bl := by rw [Nat.add_mul, Nat.one_mul]
    _ ≤ per bl * wid bl := Nat.mul_le_mul_right _ h
    _ = 64 := e
theorem place_word {bl : Nat} (h3 : 3 ≤ bl) (h6 : bl ≤ 6) (j : Nat) : j * 2 ^ bl / 64 = j / per bl ∧ j * 2 ^ bl % 64 = j % per bl * wid bl := by
  rcases bl_cases h3 h6 with rfl | rfl | rfl | rfl <;> simp [per, wid] <;> omega

end Go.Qm
