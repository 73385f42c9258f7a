import Derived.Test.Qxb6616816aList
import Derived.Lib.AppendStr
import Derived.Laws.IdiomStrings
namespace Go.Proofs.Qxb6616816a
open Go.RowKit Go.Qm

theorem info5 : (Try.prog.info? 5).map (fun i => (i.zero, i.size, i.bytes)) = some (some (.int .u8 0), 1, 1) := by kernel_rfl
def B8 (l : List UInt8) : List Value := l.map fun b => Value.int .u8 (b.toNat : Int)
theorem B8_app (a b : List UInt8) : B8 a ++ B8 b = B8 (a ++ b) := by simp [B8]
theorem B8_str (l : List UInt8) : Lib.strCells (ba l) = B8 l := by simp [Lib.strCells, B8, ba]
theorem B8_one : [Value.int .u8 44] = B8 [44] := by simp [B8]

/-- The first k parts, joined with commas. -/
def jn (L : List (List UInt8)) : Nat → List UInt8
  | 0 => []
  | k + 1 => jn L k ++ ((if 0 < k then [44] else []) ++ L.getD k [])
/-- What zzJoinComma counts. -/
def sm (L : List (List UInt8)) : Nat → Nat
  | 0 => 0
  | k + 1 => sm L k + ((L.getD k []).length + 1)
theorem jn_le (L : List (List UInt8)) (k : Nat) : (jn L k).length ≤ sm L k := by
  induction k with
  | zero => exact Nat.le_refl _
  | succ k ih => simp only [jn, sm, List.length_append]; split <;> simp <;> omega
theorem sm_mono (L : List (List UInt8)) {j k : Nat} (h : j ≤ k) : sm L j ≤ sm L k := by
  induction k with
  | zero => obtain rfl : j = 0 := by omega
            exact Nat.le_refl _
  | succ k ih =>
    by_cases e : j = k + 1
    · subst e; exact Nat.le_refl _
    · have := ih (by omega); simp only [sm]; omega

theorem len3 (a p : List UInt8) : (a ++ [44] ++ p).length = a.length + 1 + p.length := by simp; omega

/-- Bytes of the call's own behind a slice that is not nil. -/
def OwB (w : World) (B : Nat) (v : Value) (l : List UInt8) : Prop := w.ownsRow B 5 1 v l.length (B8 l) ∧ ∃ g cap, v = .slice (some ⟨g, 0, none⟩) l.length cap
theorem OwB.of {w : World} {B : Nat} {v : Value} {l : List UInt8} (h : w.ownsRow B 5 1 v l.length (B8 l)) (hn : v ≠ .slice none 0 0) : OwB w B v l := by
  refine ⟨h, ?_⟩
  rcases h.2 with ⟨e, _⟩ | ⟨g, cap, _, e, _⟩
  · exact absurd e hn
  · exact ⟨g, cap, e⟩
theorem OwB.block {w : World} {B : Nat} {v : Value} {l : List UInt8} (h : OwB w B v l) : ∀ k, v.ownBlock = some k → B ≤ k := fun k e => (h.1.lt k e).1

theorem upd_grown {w w1 w2 : World} {v : Value} (hu : Upd [] w w1) (hg : w1.grownBy w2 v.ownBlock) (hb : ∀ k, v.ownBlock = some k → w.heap.size ≤ k) : Upd [] w w2 :=
  ⟨hg.os.trans hu.os, hg.tape.trans hu.tape, hg.output.trans hu.output, Nat.le_trans hu.size hg.size, fun k hk hx => (hg.block k (Nat.lt_of_lt_of_le hk hu.size) (fun e => by have := hb k e.symm; omega)).trans (hu.block k hk hx)⟩

set_option maxRecDepth 100000 in
set_option maxHeartbeats 2000000 in
theorem join_any {w : World} {ao : Option Addr} {len cap : Nat} {L : List (List UInt8)} (h : Ss w.heap.size w ao len L) (hlen : len ≤ 4194304) (hm : sm L len ≤ 4194304) (J : List UInt8) (hJ : jn L len = J) :
    Calls Try.prog 8 #[.slice ao len cap] w fun e w' => e = .returned (.string (ba J)) ∧ Upd [] w w' := by
  obtain ⟨i0, hi, hz0, hz1, hz2⟩ := info_parts info5
  have HS := hid h.spot
  have HM := hid hm
  have HJ := hid hJ
  clear h hJ hm
  go_enter Try.func8, Try.ntmps8
  go_wp2
  go_loopw [3, 4] (fun n i wr => ∃ k : Nat, k ≤ len ∧ i = .int .i64 k ∧ n = .int .i64 (sm L k : Int) ∧ wr = w) (fun _ i _ => len - (intOf i).toNat)
  case atStart => exact ⟨0, Nat.zero_le _, rfl, rfl, rfl⟩
  case round =>
    obtain ⟨k, hk, rfl, rfl, hwr⟩ := hrel
    subst wr
    by_cases hlt : k < len
    · obtain ⟨b, off, ha, hb, hc⟩ := HS.out (by omega)
      cases ha
      have c1 := hc k hlt
      have hs1 : sm L (k + 1) = sm L k + ((L.getD k []).length + 1) := rfl
      have hs2 := sm_mono L (show k + 1 ≤ len by omega)
      have hs3 := HM.out
      obtain ⟨part, hp⟩ : ∃ part, L.getD k [] = part := ⟨_, rfl⟩
      rw [hp] at c1 hs1
      obtain ⟨S, hS⟩ : ∃ S, sm L k = S := ⟨_, rfl⟩
      rw [hS] at hs1 ⊢
      have hbz := ba_size part
      have hbd : S + part.length + 1 ≤ 4194304 := by omega
      have HS1 := hid hs1
      clear hs1 hs2 hs3 hS hp hc
      go_wp2
      go_roundw
      case rel => exact ⟨k + 1, hlt, by go_num, by rw [HS1.out]; go_num, trivial⟩
      case measure => simp [intOf]; omega
    · obtain rfl : k = len := by omega
      have hs3 := HM.out
      obtain ⟨S, hS⟩ : ∃ S, sm L k = S := ⟨_, rfl⟩
      rw [hS] at hs3 ⊢
      have HSS := hid hS
      clear hS
      go_wp2_with (at_make; refine wpList_make_own _ rfl (.const (.int .i64 0)) (.tmp 21) 34 rfl w.heap.size 5 i0 (.int .u8 0) 1 Try.underlying34 hi hz0 hz1 .i64 .i64 _ S rfl rfl rfl (by rw [hz2]; omega) (by unfold maxLen; omega) (Nat.le_refl _) ?_)
      intro w1 hown1 hgrow1
      have ow1 : OwB w1 w.heap.size (.slice (some ⟨w.heap.size, 0, none⟩) 0 S) (jn L 0) := OwB.of hown1 (by simp)
      have u1 : Upd [] w w1 := ⟨hgrow1.os, hgrow1.tape, hgrow1.output, hgrow1.size, fun k hk _ => hgrow1.block k hk (by simp)⟩
      have OW1 := hid ow1
      have U1 := hid u1
      clear hown1 hgrow1 ow1 u1
      go_wp2
      go_loopw [5, 6] (fun v i wi => ∃ j : Nat, j ≤ k ∧ i = .int .i64 j ∧ OwB wi w.heap.size v (jn L j) ∧ Upd [] w wi) (fun _ i _ => k - (intOf i).toNat)
      case atStart => exact ⟨0, Nat.zero_le _, rfl, OW1.out, U1.out⟩
      case round =>
        obtain ⟨j, hj, rfl, how, hup⟩ := hrel
        by_cases hjl : j < k
        · obtain ⟨b, off, ha, hb, hc⟩ := HS.out (by omega)
          cases ha
          have c1 : wr.cell? ⟨b, off + j, none⟩ = some (.string (ba (L.getD j []))) := by
            rw [← hc j hjl]; exact World.cell?_of_block (hup.block b hb (by simp))
          have hjs := jn_le L (j + 1)
          have hjm := sm_mono L (show j + 1 ≤ k by omega)
          rw [HSS.out] at hjm
          have hj1 : jn L (j + 1) = jn L j ++ ((if 0 < j then [44] else []) ++ L.getD j []) := rfl
          obtain ⟨part, hp⟩ : ∃ part, L.getD j [] = part := ⟨_, rfl⟩
          rw [hp] at c1 hj1
          obtain ⟨acc, hacc⟩ : ∃ acc, jn L j = acc := ⟨_, rfl⟩
          rw [hacc] at hj1 how
          have hbz := ba_size part
          obtain ⟨hown, g, cp, rfl⟩ := how
          have hob := (OwB.of hown (by simp)).block
          have HOWN := hid hown
          have HOB := hid hob
          have HUP := hid hup
          have hwlt := hup.size
          clear hown hob hup hp hacc hc
          by_cases hj0 : 0 < j
          · rw [if_pos hj0] at hj1
            have hlen1 : acc.length + 1 + part.length ≤ 4194304 := by
              rw [hj1] at hjs; simp at hjs; omega
            have HJ1 := hid hj1
            clear hj1 hjs hjm
            go_wp2_with (at_builtin; refine wpList_append_own _ rfl (.tmp 31) (.tmp 32) 34 rfl w.heap.size 5 i0 (.int .u8 0) 1 1 Try.underlying34 hi hz0 hz1 hz2 rfl (by decide) _ _ _ rfl (HOWN.out.alloc _) ⟨wr.heap.size, 0, none⟩ 1 1 [.int .u8 44] rfl rfl ?c1 ?c2 ?c3 ?c4 ?c5 ?_)
            case c1 =>
              intro i u hi
              match i, hi with
              | 0, hi => simp at hi; subst hi; simp [Addr.add]
            case c2 => intro u hu; simp at hu; subst hu; rfl
            case c3 => unfold maxLen; omega
            case c4 => omega
            case c5 => simp; omega
            intro v1 w1 hown1 hgrow1 hnil1
            have hne1 : v1 ≠ .slice none 0 0 := hnil1
            rw [B8_one, B8_app] at hown1
            have ow1 : OwB w1 w.heap.size v1 (acc ++ [44]) := OwB.of (by simpa using hown1) hne1
            obtain ⟨hown1', g1, cp1, rfl⟩ := ow1
            have u1 : Upd [] w w1 := upd_grown (HUP.out.trans (Upd.alloc [] wr _)) hgrow1 HOB.out
            have hob1 := (OwB.of hown1' (by simp)).block
            have d1 : w1.cell? ⟨b, off + j, none⟩ = some (.string (ba part)) := by
              rw [← c1]
              have e1 := World.cell?_of_block (w := w) (w' := w1) (a := ⟨b, off + j, none⟩) (u1.block b hb (by simp))
              have e2 := World.cell?_of_block (w := w) (w' := wr) (a := ⟨b, off + j, none⟩) (HUP.out.block b hb (by simp))
              rw [e1, e2]
            have HOWN1 := hid hown1'
            have HOB1 := hid hob1
            have U1' := hid u1
            have hwlt1 := u1.size
            clear hown1 hown1' hgrow1 hnil1 hne1 u1 hob1 c1
            go_wp2_with (at_builtin; refine Lib.wpList_append_own_string _ rfl (.tmp 34) (.tmp 38) 34 9 rfl w.heap.size 5 i0 Try.underlying34 Try.underlying9 hi hz0 hz1 hz2 _ _ _ rfl HOWN1.out (ba part) rfl ?d1 ?d2 ?d3 ?_)
            case d1 => unfold maxLen; simp [ba_size]; omega
            case d2 => simp [ba_size]; omega
            case d3 => exact hwlt1
            intro v2 w2 hown2 hgrow2 hnil2
            have hne2 : v2 ≠ .slice none 0 0 := hnil2
            rw [B8_str, B8_app] at hown2
            have ow2 : OwB w2 w.heap.size v2 (jn L (j + 1)) := OwB.of (by rw [HJ1.out, ← List.append_assoc, len3 acc part]; exact hown2) hne2
            have u2 : Upd [] w w2 := upd_grown U1'.out hgrow2 HOB1.out
            have OW2 := hid ow2
            have U2 := hid u2
            clear hown2 hgrow2 hnil2 hne2 ow2 u2
            go_wp2
            go_roundw
            case rel => exact ⟨j + 1, hjl, by go_num, OW2.out, U2.out⟩
            case measure => simp [intOf]; omega
          · rw [if_neg hj0, List.nil_append] at hj1
            have hlen1 : acc.length + part.length ≤ 4194304 := by
              rw [hj1] at hjs; simp at hjs; omega
            have HJ1 := hid hj1
            clear hj1 hjs hjm
            go_wp2_with (at_builtin; refine Lib.wpList_append_own_string _ rfl (.tmp 34) (.tmp 38) 34 9 rfl w.heap.size 5 i0 Try.underlying34 Try.underlying9 hi hz0 hz1 hz2 _ _ _ rfl HOWN.out (ba part) rfl ?e1 ?e2 ?e3 ?_)
            case e1 => unfold maxLen; simp [ba_size]; omega
            case e2 => simp [ba_size]; omega
            case e3 => exact hwlt
            intro v2 w2 hown2 hgrow2 hnil2
            have hne2 : v2 ≠ .slice none 0 0 := hnil2
            rw [B8_str, B8_app] at hown2
            have ow2 : OwB w2 w.heap.size v2 (jn L (j + 1)) := OwB.of (by rw [HJ1.out]; simpa using hown2) hne2
            have u2 : Upd [] w w2 := upd_grown HUP.out hgrow2 HOB.out
            have OW2 := hid ow2
            have U2 := hid u2
            clear hown2 hgrow2 hnil2 hne2 ow2 u2
            go_wp2
            go_roundw
            case rel => exact ⟨j + 1, hjl, by go_num, OW2.out, U2.out⟩
            case measure => simp [intOf]; omega
        · obtain rfl : j = k := by omega
          rw [HJ.out] at how
          obtain ⟨hown, g, cp, rfl⟩ := how
          have hcv := run_convert_bytes_back (P := Try.prog) wr 34 9 5 ⟨g, 0, none⟩ cp J Try.underlying34 Try.underlying5 Try.underlying9 (fun i hi => by
            rw [Addr.add_lit, Nat.zero_add, hown.cellAt i (by omega)]
            simp [B8, hi])
          have HUP := hid hup
          clear hown hup
          go_wp2
          go_ret
          exact ⟨rfl, HUP.out⟩
end Go.Proofs.Qxb6616816a
