import Derived.Test.Qxb6616660aDoorTwice
namespace Go.Proofs.Qxb6616660aDoor
open Go.RowKit Go.Qm

theorem info5 : (Tryd.prog.info? 5).map (fun i => (i.zero, i.size, i.bytes)) = some (some (.int .u8 0), 1, 1) := by kernel_rfl

theorem part_set (l : List UInt8) (k : Nat) (r : List UInt8) (hk : k < l.length) (hr : r.length = l.length - k) : (l.take k ++ r).set k (l.getD k 0) = l.take (k + 1) ++ r.drop 1 := by
  have hne : r ≠ [] := by intro h; subst h; simp at hr; omega
  obtain ⟨x, r', rfl⟩ := List.exists_cons_of_ne_nil hne
  rw [List.set_append_right _ _ (by simp; omega), List.length_take, Nat.min_eq_left (by omega), Nat.sub_self]
  rw [List.take_succ_eq_append_getElem hk, List.append_assoc]
  simp [List.getD, hk]

/-- The copy of l's first k bytes into n cells. -/
def cpy (l : List UInt8) (k : Nat) : List UInt8 := l.take k ++ List.replicate (l.length - k) 0
theorem cpy_zero (l : List UInt8) : cpy l 0 = List.replicate l.length 0 := by simp [cpy]
theorem cpy_all (l : List UInt8) : cpy l l.length = l := by simp [cpy]
theorem cpy_len (l : List UInt8) (k : Nat) (h : k ≤ l.length) : (cpy l k).length = l.length := by simp [cpy]; omega
theorem cpy_set (l : List UInt8) (k : Nat) (h : k < l.length) : (cpy l k).set k (l.getD k 0) = cpy l (k + 1) := by
  unfold cpy
  rw [part_set l k _ h (by simp), List.drop_replicate]
  congr 2

theorem Blk.bs {w : World} {g : Nat} {l : List UInt8} (h : Blk w g (B8 l) 5) : Bs w.heap.size w (some ⟨g, 0, none⟩) l.length l.length l :=
  ⟨rfl, Nat.le_refl _, fun h => by (cases h), fun _ => ⟨g, 0, rfl, h.lt, fun i hi => by rw [Nat.zero_add]; exact h.cellv (B8_get l i hi)⟩⟩

set_option maxHeartbeats 400000 in
theorem clone_any {D : Nat} {w : World} {ao : Option Addr} {len cap : Nat} {l : List UInt8} (h : Bs D w ao len cap l) (hl : len ≤ 2097152) :
    Calls Tryd.prog 6 #[.slice ao len cap] w fun e w' => ∃ ao' cap', e = .returned (.slice ao' len cap') ∧ Bs w'.heap.size w' ao' len cap' l ∧ Upd [] w w' := by
  have heq := fun (wx : World) => Lib.run_eql_slice_nil (P := Tryd.prog) wx 22 5 ao len cap 0 0 Tryd.underlying22
  cases ao with
  | none =>
    obtain rfl : cap = 0 := h.hnil rfl
    obtain rfl : len = 0 := by have := h.hcap; omega
    obtain rfl : l = [] := List.eq_nil_of_length_eq_zero h.hlen
    go_enter Tryd.func6, Tryd.ntmps6
    go_wp2
    go_ret
    exact ⟨none, 0, rfl, Bs.empty (fun _ => rfl), Upd.refl _ _⟩
  | some a =>
    obtain ⟨i0, hi, hz0, hz1, hz2⟩ := info_parts info5
    have hlen := h.hlen
    have HL := hid hlen
    have hsp := hid h.spot
    clear hlen
    go_enter Tryd.func6, Tryd.ntmps6
    go_wp2_with (at_make; refine wpList_make_zero _ rfl (.tmp 8) (.tmp 8) 22 rfl 5 i0 (.int .u8 0) Tryd.underlying22 hi hz0 hz1 rfl .i64 .i64 _ _ len rfl rfl rfl rfl (by rw [hz2]; omega) (by omega) ?_)
    go_loopw [4] (fun i wr => ∃ k : Nat, k ≤ len ∧ i = .int .i64 k ∧ Blk wr w.heap.size (B8 (cpy l k)) 5 ∧ Upd [] w wr) (fun i _ => len - (intOf i).toNat)
    case atStart =>
      refine ⟨0, Nat.zero_le _, rfl, ?_, Upd.alloc _ _ _⟩
      have := Blk.new w (B8 (List.replicate len 0)) 5
      rw [← Zr_u8] at this
      rw [cpy_zero, HL.out]; exact this
    case round =>
      obtain ⟨k, hk, rfl, hblk, hupd⟩ := hrel
      by_cases hlt : k < len
      · obtain ⟨b, off, ha, hb, hc⟩ := hsp.out (by omega)
        cases ha
        have hc1 := hc k hlt
        have hlt' := World.block_lt_of_cell? w _ hc1
        have hc2 : wr.cell? ⟨b, off + k, none⟩ = some (.int .u8 ((l.getD k 0).toNat : Int)) := by
          rw [← hc1]; exact World.cell?_of_block (hupd.block b hlt' (by simp))
        obtain ⟨y, hy⟩ : ∃ y : Int, ((l.getD k 0).toNat : Int) = y := ⟨_, rfl⟩
        rw [hy] at hc2
        have HY := hid hy
        have hg : wr.cell? ⟨w.heap.size, k, none⟩ = some (.int .u8 (((cpy l k).getD k 0).toNat : Int)) := hblk.cellv (B8_get _ k (by rw [cpy_len l k (by have := HL.out; omega)]; have := HL.out; omega))
        have hf := hblk.frozen k
        clear hy hc1 hc
        go_wp2
        go_roundw
        case rel =>
          refine ⟨k + 1, by omega, by go_num, ?_, hupd.trans' (Upd.setCell (S := [w.heap.size]) _ (Or.inl (by simp)) _) (by simp)⟩
          have := hblk.set k (.int .u8 y)
          rw [← HY.out, B8_set, cpy_set l k (by have := HL.out; omega), HY.out] at this
          exact this
        case measure => simp [intOf]; omega
      · obtain rfl : k = len := by omega
        go_wp2
        go_ret
        rw [← HL.out, cpy_all] at hblk
        refine ⟨_, _, rfl, ?_, hupd⟩
        have := Blk.bs hblk
        rw [HL.out] at this
        exact this

set_option maxHeartbeats 400000 in
theorem same_any {D D' : Nat} {w : World} {ao ao' : Option Addr} {len cap len' cap' : Nat} {l : List UInt8} (h : Bs D w ao len cap l) (h' : Bs D' w ao' len' cap' l) (hl : len ≤ 2097152) :
    Calls Tryd.prog 8 #[.slice ao len cap, .slice ao' len' cap'] w fun e w' => e = .returned (.bool true) ∧ ∃ q, w' = w.drewN q := by
  obtain rfl : len' = len := by rw [← h.hlen, ← h'.hlen]
  have hne : ((len' : Int) != (len' : Int)) = false := by simp
  have s1 := hid h.spot
  have s2 := hid h'.spot
  go_enter Tryd.func8, Tryd.ntmps8
  go_wp2
  go_loopw [5] (fun i wr => ∃ k : Nat, k ≤ len' ∧ i = .int .i64 k ∧ ∃ q, wr = w.drewN q) (fun i _ => len' - (intOf i).toNat)
  case atStart => exact ⟨0, Nat.zero_le _, rfl, 0, rfl⟩
  case round =>
    obtain ⟨k, hk, rfl, q, rfl⟩ := hrel
    by_cases hlt : k < len'
    · obtain ⟨b, off, rfl, hb, hc⟩ := s1.out (by omega)
      obtain ⟨b', off', rfl, hb', hc'⟩ := s2.out (by omega)
      have c1 := hc k hlt
      have c2 := hc' k hlt
      obtain ⟨y, hy⟩ : ∃ y : Int, ((l.getD k 0).toNat : Int) = y := ⟨_, rfl⟩
      rw [hy] at c1 c2
      have hyy : (y != y) = false := by simp
      have hlti : (k : Int) < (len' : Int) := by omega
      clear hy hc hc' s1 s2
      go_wp2
      go_quiet (fail)
      go_wp2
      go_roundw
      case rel => exact ⟨k + 1, by omega, by go_num, _, rfl⟩
      case measure => simp [intOf]; omega
    · go_wp2
      go_ret
      exact ⟨rfl, _, rfl⟩

/-- What lies in the new row while l' is copied behind l. -/
def cat (l l' : List UInt8) (k : Nat) : List UInt8 := l ++ cpy l' k
theorem cat_set (l l' : List UInt8) (k : Nat) (h : k < l'.length) : (cat l l' k).set (l.length + k) (l'.getD k 0) = cat l l' (k + 1) := by
  unfold cat
  rw [List.set_append_right _ _ (by omega), show l.length + k - l.length = k by omega, cpy_set l' k h]
def cat0 (l l' : List UInt8) (k : Nat) : List UInt8 := cpy l k ++ List.replicate l'.length 0
theorem cat0_zero (l l' : List UInt8) : cat0 l l' 0 = List.replicate (l.length + l'.length) 0 := by
  simp [cat0, cpy_zero]
theorem cat0_all (l l' : List UInt8) : cat0 l l' l.length = cat l l' 0 := by simp [cat0, cat, cpy_zero, cpy_all]
theorem cat0_set (l l' : List UInt8) (k : Nat) (h : k < l.length) : (cat0 l l' k).set k (l.getD k 0) = cat0 l l' (k + 1) := by
  unfold cat0
  rw [List.set_append_left _ _ (by rw [cpy_len l k (by omega)]; exact h), cpy_set l k h]
theorem cat0_len (l l' : List UInt8) (k : Nat) (h : k ≤ l.length) : (cat0 l l' k).length = l.length + l'.length := by simp [cat0, cpy_len l k h]
theorem cat_len (l l' : List UInt8) (k : Nat) (h : k ≤ l'.length) : (cat l l' k).length = l.length + l'.length := by simp [cat, cpy_len l' k h]

set_option maxHeartbeats 400000 in
theorem concat_any {D D' : Nat} {w : World} {ao ao' : Option Addr} {len cap len' cap' : Nat} {l l' : List UInt8} (h : Bs D w ao len cap l) (h' : Bs D' w ao' len' cap' l') (hl : len ≤ 2097152) (hl' : len' ≤ 2097152) :
    Calls Tryd.prog 9 #[.slice ao len cap, .slice ao' len' cap'] w fun e wz => ∃ ao1 cap1, e = .returned (.slice ao1 (len + len') cap1) ∧ Bs wz.heap.size wz ao1 (len + len') cap1 (l ++ l') ∧ Upd [] w wz := by
  obtain ⟨i0, hi, hz0, hz1, hz2⟩ := info_parts info5
  have HL := hid h.hlen
  have HL' := hid h'.hlen
  have s1 := hid h.spot
  have s2 := hid h'.spot
  go_enter Tryd.func9, Tryd.ntmps9
  go_wp2_with (at_make; refine wpList_make_zero _ rfl (.tmp 12) (.tmp 12) 22 rfl 5 i0 (.int .u8 0) Tryd.underlying22 hi hz0 hz1 rfl .i64 .i64 _ _ (len + len') rfl rfl (by omega) (by omega) (by rw [hz2]; omega) (by omega) ?_)
  go_loopw [6] (fun i wr => ∃ k : Nat, k ≤ len ∧ i = .int .i64 k ∧ Blk wr w.heap.size (B8 (cat0 l l' k)) 5 ∧ Upd [] w wr) (fun i _ => len - (intOf i).toNat)
  case atStart =>
    refine ⟨0, Nat.zero_le _, rfl, ?_, Upd.alloc _ _ _⟩
    have := Blk.new w (B8 (List.replicate (len + len') 0)) 5
    rw [← Zr_u8] at this
    rw [cat0_zero, HL.out, HL'.out]; exact this
  case round =>
    obtain ⟨k, hk, rfl, hblk, hupd⟩ := hrel
    by_cases hlt : k < len
    · obtain ⟨b, off, rfl, hb, hc⟩ := s1.out (by omega)
      have hc1 := hc k hlt
      have hlt' := World.block_lt_of_cell? w _ hc1
      have hc2 : wr.cell? ⟨b, off + k, none⟩ = some (.int .u8 ((l.getD k 0).toNat : Int)) := by
        rw [← hc1]; exact World.cell?_of_block (hupd.block b hlt' (by simp))
      obtain ⟨y, hy⟩ : ∃ y : Int, ((l.getD k 0).toNat : Int) = y := ⟨_, rfl⟩
      rw [hy] at hc2
      have HY := hid hy
      have hg : wr.cell? ⟨w.heap.size, k, none⟩ = some (.int .u8 (((cat0 l l' k).getD k 0).toNat : Int)) := hblk.cellv (B8_get _ k (by rw [cat0_len l l' k (by have := HL.out; omega)]; have := HL.out; omega))
      have hf := hblk.frozen k
      clear hy hc1 hc
      go_wp2
      go_roundw
      case rel =>
        refine ⟨k + 1, by omega, by go_num, ?_, hupd.trans' (Upd.setCell (S := [w.heap.size]) _ (Or.inl (by simp)) _) (by simp)⟩
        have := hblk.set k (.int .u8 y)
        rw [← HY.out, B8_set, cat0_set l l' k (by have := HL.out; omega), HY.out] at this
        exact this
      case measure => simp [intOf]; omega
    · obtain rfl : k = len := by omega
      have hblk0 : Blk wr w.heap.size (B8 (cat l l' 0)) 5 := by rw [← cat0_all, HL.out]; exact hblk
      obtain ⟨w0, hw0⟩ : ∃ w0 : World, w0 = wr := ⟨_, rfl⟩
      subst hw0
      clear hblk
      go_wp2
      go_loopw [7] (fun i wr => ∃ q : Nat, q ≤ len' ∧ i = .int .i64 q ∧ Blk wr w.heap.size (B8 (cat l l' q)) 5 ∧ Upd [] w wr) (fun i _ => len' - (intOf i).toNat)
      case atStart => exact ⟨0, Nat.zero_le _, rfl, hblk0, hupd⟩
      case round =>
        obtain ⟨q, hq, rfl, hblk, hupd⟩ := hrel
        by_cases hlt : q < len'
        · obtain ⟨b, off, rfl, hb, hc⟩ := s2.out (by omega)
          have hc1 := hc q hlt
          have hlt' := World.block_lt_of_cell? w _ hc1
          have hc2 : wr.cell? ⟨b, off + q, none⟩ = some (.int .u8 ((l'.getD q 0).toNat : Int)) := by
            rw [← hc1]; exact World.cell?_of_block (hupd.block b hlt' (by simp))
          obtain ⟨y, hy⟩ : ∃ y : Int, ((l'.getD q 0).toNat : Int) = y := ⟨_, rfl⟩
          rw [hy] at hc2
          have HY := hid hy
          have hg : wr.cell? ⟨w.heap.size, k + q, none⟩ = some (.int .u8 (((cat l l' q).getD (k + q) 0).toNat : Int)) := hblk.cellv (B8_get _ (k + q) (by rw [cat_len l l' q (by have := HL'.out; omega)]; have := HL.out; have := HL'.out; omega))
          have hf := hblk.frozen (k + q)
          clear hy hc1 hc
          go_wp2
          go_roundw
          case rel =>
            refine ⟨q + 1, by omega, by go_num, ?_, hupd.trans' (Upd.setCell (S := [w.heap.size]) _ (Or.inl (by simp)) _) (by simp)⟩
            have := hblk.set (k + q) (.int .u8 y)
            rw [← HY.out, B8_set, ← HL.out, cat_set l l' q (by have := HL'.out; omega), HY.out, HL.out] at this
            exact this
          case measure => simp [intOf]; omega
        · obtain rfl : q = len' := by omega
          go_wp2
          go_ret
          have hb9 : Blk wr w.heap.size (B8 (l ++ l')) 5 := by
            have h9 := hblk
            unfold cat at h9
            rw [← HL'.out, cpy_all] at h9
            exact h9
          refine ⟨_, _, rfl, ?_, hupd⟩
          have := Blk.bs hb9
          rw [List.length_append, HL.out, HL'.out] at this
          exact this
end Go.Proofs.Qxb6616660aDoor
