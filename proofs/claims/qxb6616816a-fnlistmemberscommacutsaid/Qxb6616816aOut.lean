import Derived.Test.Qxb6616816aCut
import Derived.OneCell
namespace Go.Proofs.Qxb6616816a
open Go.RowKit Go.Qm

theorem info9 : (Try.prog.info? 9).map (fun i => (i.zero, i.size, i.bytes)) = some (some (.string ByteArray.empty), 1, 16) := by kernel_rfl

/-- Strings as cells. -/
def S9 (xs : List (List UInt8)) : List Value := xs.map fun l => Value.string (ba l)
theorem S9_length (xs : List (List UInt8)) : (S9 xs).length = xs.length := by simp [S9]
theorem S9_app (xs : List (List UInt8)) (m : List UInt8) : S9 xs ++ [.string (ba m)] = S9 (xs ++ [m]) := by simp [S9]
theorem S9_get (xs : List (List UInt8)) (i : Nat) (h : i < xs.length) : (S9 xs)[i]? = some (.string (ba (xs.getD i []))) := by simp [S9, List.getD, h]

/-- The captured variable in block B holds a slice of the call's own: the strings xs. -/
def Out (w : World) (B : Nat) (xs : List (List UInt8)) : Prop := ∃ v, Blk w B [v] 22 ∧ w.ownsRow (B + 1) 9 1 v xs.length (S9 xs)
theorem Out.heap {w w' : World} {B : Nat} {xs : List (List UInt8)} (h : Out w B xs) (e : w'.heap = w.heap) : Out w' B xs := by
  obtain ⟨v, h1, h2⟩ := h
  exact ⟨v, by unfold Blk; rw [e]; exact h1, h2.1, by rw [e]; exact h2.2⟩

set_option maxHeartbeats 1000000 in
theorem clo_any {w : World} {B : Nat} {xs : List (List UInt8)} (h : Out w B xs) (m : List UInt8) (hn : xs.length ≤ 2097152) :
    Calls Try.prog 15 #[.string (ba m), .pointer (some ⟨B, 0, none⟩)] w fun e w' => e = .returned (.tuple #[]) ∧ Out w' B (xs ++ [m]) ∧ Below B w w' := by
  obtain ⟨v, h1, h2⟩ := h
  obtain ⟨i0, hi, hz0, hz1, hz2⟩ := info_parts info9
  have c0 : w.cell? ⟨B, 0, none⟩ = some v := h1.cellv rfl
  have hlt := h1.lt
  have H1 := hid h1
  have H2 := hid h2
  clear h1 h2
  go_enter Try.func15, Try.ntmps15
  go_wp2_with (at_builtin; refine wpList_append_own _ rfl (.tmp 3) (.tmp 5) 22 rfl (B + 1) 9 i0 (.string ByteArray.empty) 1 16 Try.underlying22 hi hz0 hz1 hz2 rfl (by decide) _ _ _ rfl (H2.out.alloc _) ⟨w.heap.size, 0, none⟩ 1 1 [.string (ba m)] rfl rfl ?c1 ?c2 ?c3 ?c4 ?c5 ?_)
  case c1 =>
    intro j u hj
    match j, hj with
    | 0, hj => simp at hj; subst hj; simp [Addr.add]
  case c2 => intro u hu; simp at hu; subst hu; rfl
  case c3 => unfold maxLen; omega
  case c4 => omega
  case c5 => simp; omega
  · intro v' w1 hown hgrow _
    obtain ⟨g, cap, hv'⟩ : ∃ g cap, v' = .slice (some ⟨g, 0, none⟩) (xs.length + 1) cap := by
      rcases hown.2 with ⟨_, h0⟩ | ⟨g, cap, cur, hv, _⟩
      · omega
      · exact ⟨g, cap, hv⟩
    subst hv'
    have hvb : v.ownBlock ≠ some B := by
      intro e
      have := (H2.out.lt B e).1
      omega
    have b1 : Blk w1 B [v] 22 := by
      have b0 := H1.out.alloc (.cells #[.string (ba m)] 9)
      have b0l := b0.lt
      unfold Blk at b0 ⊢
      rw [hgrow.block B b0l (fun e => hvb e.symm)]
      exact b0
    have c1 : w1.cell? ⟨B, 0, none⟩ = some v := b1.cellv rfl
    have f1 := b1.frozen 0
    have HB := hid b1
    have HO := hid hown
    have HG := hid hgrow
    clear b1 hown hgrow
    go_wp2
    go_end0
    have hv' : (Value.slice (some ⟨g, 0, none⟩) (xs.length + 1) cap).ownBlock ≠ some B := by
      intro e
      have := (HO.out.lt B e).1
      omega
    refine ⟨rfl, ⟨_, HB.out.set 0 _, ?_⟩, ?_⟩
    · have := ownsRow_setCell_other HO.out (a := ⟨B, 0, none⟩) hv' (Value.slice (some ⟨g, 0, none⟩) (xs.length + 1) cap)
      rw [S9_app] at this
      simpa using this
    · have g1 : Below B w (w.alloc (.cells #[.string (ba m)] 9)) := (Below.refl B w).alloc (by omega) _
      exact (g1.grown HG.out (by simp; omega) (fun k hk => by have := (H2.out.lt k hk).1; omega)).setCell (by simp) _
end Go.Proofs.Qxb6616816a
