import Derived.Test.Qxb6616816aMem
namespace Go.Proofs.Qxb6616816a
open Go.RowKit Go.Qm

/-- Where the first comma outside quotes lies. State 0: outside, 1: inside quotes, 2: behind a backslash inside quotes. -/
def cutP : Nat → List UInt8 → Option Nat
  | _, [] => none
  | st, c :: r =>
    if st = 2 then (cutP 1 r).map (· + 1)
    else if st = 1 ∧ c = 92 then (cutP 2 r).map (· + 1)
    else if c = 34 then (cutP (1 - st) r).map (· + 1)
    else if st = 0 ∧ c = 44 then some 0
    else (cutP st r).map (· + 1)

theorem cutP_lt (l : List UInt8) : ∀ (st i : Nat), cutP st l = some i → i < l.length := by
  induction l with
  | nil => intro st i h; simp [cutP] at h
  | cons c r ih =>
    intro st i h
    unfold cutP at h
    have key : ∀ st', (cutP st' r).map (· + 1) = some i → i < (c :: r).length := by
      intro st' h
      simp at h
      obtain ⟨j, hj, rfl⟩ := h
      have := ih st' j hj
      simp; omega
    split at h
    · exact key _ h
    split at h
    · exact key _ h
    split at h
    · exact key _ h
    split at h
    · simp at h; subst h; simp
    · exact key _ h

theorem drop_get (l : List UInt8) (i : Nat) (h : i < l.length) : l.drop i = l.getD i 0 :: l.drop (i + 1) := by
  rw [List.drop_eq_getElem_cons h]
  simp [List.getD, h]

/-- What the loop keeps. -/
def CutAt (l : List UInt8) (st i : Nat) : Prop := cutP 0 l = (cutP st (l.drop i)).map (· + i)
theorem CutAt.start (l : List UInt8) : CutAt l 0 0 := by unfold CutAt; simp
theorem map_map_add (o : Option Nat) (i : Nat) : (o.map (· + 1)).map (· + i) = o.map (· + (i + 1)) := by
  cases o <;> simp; omega
theorem CutAt.esc {l : List UInt8} {i : Nat} (h : CutAt l 1 i) (hi : i < l.length) (hc : l.getD i 0 = 92) : CutAt l 1 (i + 1 + 1) := by
  unfold CutAt at *
  rw [h, drop_get l i hi, hc]
  have e : cutP 1 (92 :: l.drop (i + 1)) = (cutP 2 (l.drop (i + 1))).map (· + 1) := by simp [cutP]
  rw [e, map_map_add]
  by_cases h2 : i + 1 < l.length
  · rw [drop_get l (i + 1) h2]
    have e2 : ∀ c r, cutP 2 (c :: r) = (cutP 1 r).map (· + 1) := by intro c r; simp [cutP]
    rw [e2, map_map_add]
  · rw [List.drop_eq_nil_of_le (by omega), List.drop_eq_nil_of_le (by omega)]
    rfl
theorem CutAt.quote {l : List UInt8} {st i : Nat} (h : CutAt l st i) (hst : st ≤ 1) (hi : i < l.length) (hc : l.getD i 0 = 34) : CutAt l (1 - st) (i + 1) := by
  unfold CutAt at *
  rw [h, drop_get l i hi, hc]
  have e : cutP st (34 :: l.drop (i + 1)) = (cutP (1 - st) (l.drop (i + 1))).map (· + 1) := by
    rw [cutP, if_neg (by omega), if_neg (by simp), if_pos rfl]
  rw [e, map_map_add]
theorem CutAt.other {l : List UInt8} {st i : Nat} (h : CutAt l st i) (hst : st ≤ 1) (hi : i < l.length) (h1 : ¬ (st = 1 ∧ l.getD i 0 = 92)) (h2 : l.getD i 0 ≠ 34) (h3 : ¬ (st = 0 ∧ l.getD i 0 = 44)) : CutAt l st (i + 1) := by
  unfold CutAt at *
  rw [h, drop_get l i hi]
  have e : cutP st (l.getD i 0 :: l.drop (i + 1)) = (cutP st (l.drop (i + 1))).map (· + 1) := by
    rw [cutP, if_neg (by omega), if_neg h1, if_neg h2, if_neg h3]
  rw [e, map_map_add]
theorem CutAt.sep {l : List UInt8} {i : Nat} (h : CutAt l 0 i) (hi : i < l.length) (hc : l.getD i 0 = 44) : cutP 0 l = some i := by
  unfold CutAt at *
  rw [h, drop_get l i hi, hc]
  simp [cutP]
theorem CutAt.done {l : List UInt8} {st i : Nat} (h : CutAt l st i) (hi : l.length ≤ i) : cutP 0 l = none := by
  unfold CutAt at *
  rw [h, List.drop_eq_nil_of_le hi]
  simp [cutP]

/-- The members of a line. -/
def mem (l : List UInt8) : List (List UInt8) :=
  match h : cutP 0 l with
  | none => [l]
  | some i => l.take i :: mem (l.drop (i + 1))
termination_by l.length
decreasing_by have := cutP_lt l 0 i h; simp; omega

theorem mem_none {l : List UInt8} (h : cutP 0 l = none) : mem l = [l] := by
  rw [mem]; split
  · rfl
  · rename_i i h'; rw [h] at h'; cases h'
theorem mem_some {l : List UInt8} {i : Nat} (h : cutP 0 l = some i) : mem l = l.take i :: mem (l.drop (i + 1)) := by
  rw [mem]; split
  · rename_i h'; rw [h] at h'; cases h'
  · rename_i j h'; rw [h] at h'; cases h'; rfl

/-- The string of these bytes. -/
def ba (l : List UInt8) : ByteArray := ⟨l.toArray⟩
theorem ba_size (l : List UInt8) : (ba l).size = l.length := by simp [ba, ByteArray.size]
theorem ba_of (b : ByteArray) : ba b.data.toList = b := by simp [ba]
end Go.Proofs.Qxb6616816a
