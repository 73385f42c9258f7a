import Derived.Test.Qxb6616816aPlain2
namespace Go.Proofs.Qxb6616816a
open Go.RowKit Go.Qm

/-- The first c in l. -/
def cnt (c : UInt8) : List UInt8 → Nat
  | [] => 0
  | x :: r => (if x = c then 1 else 0) + cnt c r

/-- Without a quote the first comma is cut at. -/
theorem cutP_plain (a b : List UInt8) (hq : (34 : UInt8) ∉ a) (hc : (44 : UInt8) ∉ a) : cutP 0 (a ++ 44 :: b) = some a.length := by
  induction a with
  | nil => simp [cutP]
  | cons x r ih =>
    have h1 : x ≠ 34 := fun e => hq (by simp [e])
    have h2 : x ≠ 44 := fun e => hc (by simp [e])
    have := ih (fun h => hq (by simp [h])) (fun h => hc (by simp [h]))
    rw [List.cons_append, cutP, if_neg (by omega), if_neg (by simp), if_neg h1, if_neg (by simp [h2]), this]
    simp
theorem cutP_plain_none (a : List UInt8) (hq : (34 : UInt8) ∉ a) (hc : (44 : UInt8) ∉ a) : cutP 0 a = none := by
  induction a with
  | nil => simp [cutP]
  | cons x r ih =>
    have h1 : x ≠ 34 := fun e => hq (by simp [e])
    have h2 : x ≠ 44 := fun e => hc (by simp [e])
    have := ih (fun h => hq (by simp [h])) (fun h => hc (by simp [h]))
    rw [cutP, if_neg (by omega), if_neg (by simp), if_neg h1, if_neg (by simp [h2]), this]
    rfl
/-- A list without the quote: split at its first comma, or none. -/
theorem split_comma (a : List UInt8) : (44 : UInt8) ∉ a ∨ ∃ x y, a = x ++ 44 :: y ∧ (44 : UInt8) ∉ x := by
  by_cases h : (44 : UInt8) ∈ a
  · right
    induction a with
    | nil => simp at h
    | cons c r ih =>
      by_cases hc : c = 44
      · exact ⟨[], r, by simp [hc], by simp⟩
      · have hr : (44 : UInt8) ∈ r := by
          rcases List.mem_cons.1 h with e | e
          · exact absurd e.symm hc
          · exact e
        obtain ⟨x, y, rfl, hx⟩ := ih hr
        exact ⟨c :: x, y, by simp, by simp [hx, Ne.symm hc]⟩
  · exact Or.inl h
theorem drop_mid (x b : List UInt8) : (x ++ 44 :: b).drop (x.length + 1) = b := by
  rw [show x ++ 44 :: b = (x ++ [44]) ++ b by simp, show x.length + 1 = (x ++ [44]).length by simp]
  exact List.drop_left
theorem mem_cut (x b : List UInt8) (hq : (34 : UInt8) ∉ x) (hc : (44 : UInt8) ∉ x) : mem (x ++ 44 :: b) = x :: mem b := by
  have h := cutP_plain x b hq hc
  rw [mem_some h]
  congr 1
  · simp
  · congr 1
    have : (x ++ 44 :: b).drop (x.length + 1) = b := by
      rw [show x ++ 44 :: b = (x ++ [44]) ++ b by simp, show x.length + 1 = (x ++ [44]).length by simp]
      exact List.drop_left
    exact this
theorem cnt_app (c : UInt8) (x y : List UInt8) : cnt c (x ++ y) = cnt c x + cnt c y := by
  induction x with
  | nil => simp [cnt]
  | cons a r ih => simp [cnt, ih]; omega
theorem cnt_zero (c : UInt8) (x : List UInt8) (h : c ∉ x) : cnt c x = 0 := by
  induction x with
  | nil => rfl
  | cons a r ih =>
    have h1 : a ≠ c := fun e => h (by simp [e])
    simp [cnt, h1, ih (fun hh => h (by simp [hh]))]

/-- The law on a line without a quote. -/
theorem plain4 : ∀ (n : Nat) (a : List UInt8), a.length = n → (34 : UInt8) ∉ a → (mem a).length = cnt 44 a + 1 ∧ (∀ x ∈ mem a, (44 : UInt8) ∉ x) ∧ ∀ b, mem (a ++ 44 :: b) = mem a ++ mem b := by
  intro n
  induction n using Nat.strongRecOn with
  | ind n ih =>
    intro a hn hq
    rcases split_comma a with hc | ⟨x, y, rfl, hx⟩
    · rw [mem_none (cutP_plain_none a hq hc), cnt_zero 44 a hc]
      refine ⟨rfl, ?_, fun b => ?_⟩
      · intro z hz; simp at hz; subst hz; exact hc
      · rw [mem_cut a b hq hc]; rfl
    · have hqx : (34 : UInt8) ∉ x := fun h => hq (by simp [h])
      have hqy : (34 : UInt8) ∉ y := fun h => hq (by simp [h])
      obtain ⟨k1, k2, k3⟩ := ih y.length (by simp at hn; omega) y rfl hqy
      rw [mem_cut x y hqx hx]
      refine ⟨?_, ?_, fun b => ?_⟩
      · rw [cnt_app, cnt_zero 44 x hx]
        simp [cnt, k1]; omega
      · intro z hz
        rcases List.mem_cons.1 hz with rfl | hz
        · exact hx
        · exact k2 z hz
      · rw [List.append_assoc, List.cons_append, mem_cut x _ hqx hx, k3 b]
        rfl

theorem cutP_in (q b : List UInt8) (h1 : (34 : UInt8) ∉ q) (h2 : (92 : UInt8) ∉ q) : cutP 1 (q ++ 34 :: 44 :: b) = some (q.length + 1) := by
  induction q with
  | nil => simp [cutP]
  | cons x r ih =>
    have e1 : x ≠ 34 := fun e => h1 (by simp [e])
    have e2 : x ≠ 92 := fun e => h2 (by simp [e])
    have := ih (fun h => h1 (by simp [h])) (fun h => h2 (by simp [h]))
    rw [List.cons_append, cutP, if_neg (by omega), if_neg (by simp [e2]), if_neg e1, if_neg (by simp), this]
    simp
/-- The law on a quoted string. -/
theorem plainq (q b : List UInt8) (h1 : (34 : UInt8) ∉ q) (h2 : (92 : UInt8) ∉ q) : mem ((34 :: q ++ [34]) ++ 44 :: b) = (34 :: q ++ [34]) :: mem b := by
  have hc : cutP 0 ((34 :: q ++ [34]) ++ 44 :: b) = some ((34 :: q ++ [34]).length) := by
    have e : (34 :: q ++ [34]) ++ 44 :: b = 34 :: (q ++ 34 :: 44 :: b) := by simp
    rw [e, cutP, if_neg (by omega), if_neg (by simp), if_pos rfl, Nat.sub_zero, cutP_in q b h1 h2]
    simp
  rw [mem_some hc]
  congr 1
  · exact List.take_left
  · congr 1
    exact drop_mid _ _
end Go.Proofs.Qxb6616816a
