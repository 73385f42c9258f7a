import Derived.Test.Qxb6616816aJoin
namespace Go.Proofs.Qxb6616816a
open Go.RowKit Go.Qm

theorem cutP_sep (l : List UInt8) : ∀ (st i : Nat), cutP st l = some i → l.getD i 0 = 44 := by
  induction l with
  | nil => intro st i h; simp [cutP] at h
  | cons c r ih =>
    intro st i h
    unfold cutP at h
    have key : ∀ st', (cutP st' r).map (· + 1) = some i → (c :: r).getD i 0 = 44 := by
      intro st' h
      simp at h
      obtain ⟨j, hj, rfl⟩ := h
      have := ih st' j hj
      simpa using this
    split at h
    · exact key _ h
    split at h
    · exact key _ h
    split at h
    · exact key _ h
    split at h
    · rename_i h4; simp at h; subst h; simp [h4.2]
    · exact key _ h

theorem cut_parts {l : List UInt8} {i : Nat} (h : cutP 0 l = some i) : l.take i ++ 44 :: l.drop (i + 1) = l := by
  have h1 := cutP_lt l 0 i h
  have h2 := cutP_sep l 0 i h
  have e := drop_get l i h1
  rw [h2] at e
  rw [← e, List.take_append_drop]

theorem jn_cons (x : List UInt8) (r : List (List UInt8)) (k : Nat) : jn (x :: r) (k + 1) = x ++ (if 0 < k then 44 :: jn r k else []) := by
  induction k with
  | zero => simp [jn]
  | succ k ih =>
    have e : jn (x :: r) (k + 1 + 1) = jn (x :: r) (k + 1) ++ ((if 0 < k + 1 then [44] else []) ++ (x :: r).getD (k + 1) []) := rfl
    rw [e, ih]
    by_cases h : 0 < k
    · simp [jn, h]
    · obtain rfl : k = 0 := by omega
      simp [jn]

theorem sm_cons (x : List UInt8) (r : List (List UInt8)) (k : Nat) : sm (x :: r) (k + 1) = x.length + 1 + sm r k := by
  induction k with
  | zero => simp [sm]
  | succ k ih =>
    have e : sm (x :: r) (k + 1 + 1) = sm (x :: r) (k + 1) + (((x :: r).getD (k + 1) []).length + 1) := rfl
    rw [e, ih]
    simp [sm]; omega

theorem mem_facts : ∀ (n : Nat) (l : List UInt8), l.length = n → jn (mem l) (mem l).length = l ∧ sm (mem l) (mem l).length = l.length + 1 ∧ (mem l).length ≤ l.length + 1 := by
  intro n
  induction n using Nat.strongRecOn with
  | ind n ih =>
    intro l hl
    cases h : cutP 0 l with
    | none => rw [mem_none h]; simp [jn, sm]
    | some i =>
      have hlt := cutP_lt l 0 i h
      obtain ⟨k1, k2, k3⟩ := ih (l.drop (i + 1)).length (by simp; omega) (l.drop (i + 1)) rfl
      rw [mem_some h]
      have hp := mem_pos (l.drop (i + 1))
      obtain ⟨m, hm⟩ : ∃ m, (mem (l.drop (i + 1))).length = m + 1 := ⟨(mem (l.drop (i + 1))).length - 1, by omega⟩
      refine ⟨?_, ?_, ?_⟩
      · rw [List.length_cons, jn_cons, if_pos (by omega), k1]
        exact cut_parts h
      · rw [List.length_cons, sm_cons, k2]
        simp; omega
      · simp at k3 ⊢; omega
theorem jn_mem (l : List UInt8) : jn (mem l) (mem l).length = l := (mem_facts _ l rfl).1
theorem sm_mem (l : List UInt8) : sm (mem l) (mem l).length = l.length + 1 := (mem_facts _ l rfl).2.1
theorem mem_le (l : List UInt8) : (mem l).length ≤ l.length + 1 := (mem_facts _ l rfl).2.2
end Go.Proofs.Qxb6616816a
