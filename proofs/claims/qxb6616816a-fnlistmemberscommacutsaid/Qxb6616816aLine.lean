import Derived.Test.Qxb6616816aBytes
import Derived.Laws.CopyOwn
import Derived.Laws.Cover3
import Derived.Deep.RegionHeld3
namespace Go.Proofs.Qxb6616816a
open Go.RowKit Go.Qm

set_option maxRecDepth 100000 in
set_option maxHeartbeats 1000000 in
theorem line_bad {w : World} {ao : Option Addr} {len cap : Nat} {L : List (List UInt8)} (h : Ss w.heap.size w ao len L) (hb : ¬ bt L len len ≤ 1048576) (hm : len ≤ 9223372036854775807) :
    Calls Try.prog 3 #[.slice ao len cap] w fun e w' => e = .returned (.bool true) ∧ Upd [] w w' := by
  have H := hid (bytes5_bad (cap := cap) h hb hm)
  clear h hb
  go_enter Try.func3, Try.ntmps3
  go_wp2_with (go_at_call 5; refine H.out.mono ?_; rintro e w1 ⟨rfl, rfl⟩)
  go_ret
  exact ⟨rfl, Upd.refl _ _⟩

set_option maxRecDepth 100000 in
set_option maxHeartbeats 1000000 in
theorem line_long {w : World} {ao : Option Addr} {len cap : Nat} {L : List (List UInt8)} (h : Ss w.heap.size w ao len L) (hb : bt L len len ≤ 1048576) (hl : 65536 < len) :
    Calls Try.prog 3 #[.slice ao len cap] w fun e w' => e = .returned (.bool true) ∧ Upd [] w w' := by
  have H := hid (bytes5_ok (cap := cap) h hb)
  have hl2 : len ≤ 1048576 := by have := bt_mono L len (Nat.zero_le len); simp only [bt] at this; omega
  clear h hb
  go_enter Try.func3, Try.ntmps3
  go_wp2_with (go_at_call 5; refine H.out.mono ?_; rintro e w1 ⟨rfl, rfl⟩)
  go_ret
  exact ⟨rfl, Upd.refl _ _⟩

set_option maxRecDepth 100000 in
set_option maxHeartbeats 1000000 in
theorem line_heavy {w : World} {ao : Option Addr} {len cap : Nat} {L : List (List UInt8)} (h : Ss w.heap.size w ao len L) (hb : bt L len len ≤ 1048576) (hl : len ≤ 65536) (ha : ¬ ad L len ≤ 1048576) :
    Calls Try.prog 3 #[.slice ao len cap] w fun e w' => e = .returned (.bool true) ∧ Upd [] w w' := by
  have H := hid (bytes5_ok (cap := cap) h hb)
  have HA := hid (add6_bad (cap := cap) h ha hl (fun i hi => Nat.le_trans (bt_part L len hi) hb))
  clear h hb ha
  go_enter Try.func3, Try.ntmps3
  go_wp2_with (first | (go_at_call 5; refine H.out.mono ?_; rintro e w1 ⟨rfl, rfl⟩) | (go_at_call 6; refine HA.out.mono ?_; rintro e w1 ⟨t, ht, rfl, rfl⟩))
  go_ret
  exact ⟨rfl, Upd.refl _ _⟩

set_option maxRecDepth 100000 in
set_option maxHeartbeats 1000000 in
theorem line_nil {w : World} (cap : Nat) :
    Calls Try.prog 3 #[.slice none 0 cap] w fun e w' => e = .returned (.bool true) ∧ Upd [] w w' := by
  have hS : Ss w.heap.size w none 0 [] := ⟨rfl, fun h => by omega⟩
  have H := hid (bytes5_ok (cap := cap) hS (by simp [bt]))
  have HA := hid (add6_ok (cap := cap) hS (by simp [ad]) (by omega))
  have HL := hid (list_any (cap := cap) hS (fun i hi => by omega) (by omega) (by simp) 0 rfl)
  have hneq := fun (wx : World) => run_neq_slice_nil (P := Try.prog) wx 22 9 none 0 cap Try.underlying22
  clear hS
  go_enter Try.func3, Try.ntmps3
  go_wp2_with (first | (go_at_call 5; refine H.out.mono ?_; rintro e w1 ⟨rfl, rfl⟩) | (go_at_call 6; refine HA.out.mono ?_; rintro e w1 ⟨rfl, rfl⟩) | (go_at_call 7; refine HL.out.mono ?_; rintro e w1 ⟨ao', cap', rfl, hss, hu⟩))
  go_loopw [5, 6] (fun p i wr => p = .int .i64 0 ∧ i = .int .i64 0 ∧ wr = w1) (fun _ _ _ => 0)
  case atStart => exact ⟨rfl, rfl, rfl⟩
  case round =>
    obtain ⟨rfl, rfl, hwr⟩ := hrel
    subst wr
    go_wp2
    go_ret
    exact ⟨rfl, hu⟩

theorem Ss.one {D : Nat} {w : World} {b off len : Nat} {L : List (List UInt8)} (h : Ss D w (some ⟨b, off, none⟩) len L) (k : Nat) (hk : k < len) : Ss D w (some ⟨b, off + k, none⟩) 1 [L.getD k []] := by
  refine ⟨rfl, fun _ => ?_⟩
  obtain ⟨b', off', ha, hb, hc⟩ := h.spot (by omega)
  cases ha
  refine ⟨b, off + k, rfl, hb, fun i hi => ?_⟩
  obtain rfl : i = 0 := by omega
  simpa using hc k hk

theorem row_of {w : World} {a : Addr} {len : Nat} {L : List (List UInt8)} (h : Ss w.heap.size w (some a) len L) :
    ∀ j v, (S9 L)[j]? = some v → (w.alloc (.cells (Zr (.string ByteArray.empty) len) 9)).cell? (a.add j) = some v := by
  intro j v hj
  have hjl : j < L.length := by
    have := (List.getElem?_eq_some_iff.1 hj).1
    rwa [S9_length] at this
  rw [S9_get L j hjl] at hj
  have hl := h.hlen
  obtain ⟨b, off, ha, hb, hc⟩ := h.spot (by omega)
  cases ha
  rw [Addr.add_lit]
  have e := World.cell?_of_block (w := w) (w' := w.alloc (.cells (Zr (.string ByteArray.empty) len) 9)) (a := ⟨b, off + j, none⟩) (Below.heap_alloc _ _ _ hb)
  rw [e, hc j (by omega)]
  exact hj

theorem setRow_upd {w : World} (T : TypeId) (cs0 cs : Array Value) : Upd [] w ((w.alloc (.cells cs0 T)).setRow w.heap.size cs) :=
  ⟨rfl, rfl, rfl, by simp [World.setRow], fun k hk _ => (setRow_other _ _ _ _ (by omega)).trans (Below.heap_alloc _ _ _ hk)⟩

theorem flat_take (L : List (List UInt8)) : ∀ k, k ≤ L.length → ((L.take k).flatMap mem).length ≤ ad L k := by
  intro k
  induction k with
  | zero => intro _; simp [ad]
  | succ k ih =>
    intro hk
    rw [take_flat L k (by omega), List.length_append]
    have := ih (by omega)
    have := mem_le (L.getD k [])
    simp only [ad]; omega
theorem flat_bound {L : List (List UInt8)} {len : Nat} (hl : L.length = len) (h : ad L len ≤ 1048576) : (L.flatMap mem).length ≤ 1048576 := by
  have := flat_take L len (by omega)
  rw [List.take_of_length_le (by omega)] at this
  omega
theorem getD_app (A M R : List (List UInt8)) (j : Nat) (hj : j < M.length) : (A ++ (M ++ R)).getD (A.length + j) [] = M.getD j [] := by
  have h : ¬ A.length + j < A.length := by omega
  simp [List.getD, List.getElem?_append, hj, h]
theorem all_get (L : List (List UInt8)) (k : Nat) (hk : k < L.length) (j : Nat) (hj : j < (mem (L.getD k [])).length) : (L.flatMap mem).getD (((L.take k).flatMap mem).length + j) [] = (mem (L.getD k [])).getD j [] := by
  have e : L.flatMap mem = (L.take k).flatMap mem ++ (mem (L.getD k []) ++ (L.drop (k + 1)).flatMap mem) := by
    rw [← List.append_assoc, ← take_flat L k hk, ← List.flatMap_append, List.take_append_drop]
  rw [e]
  exact getD_app _ _ _ j hj
theorem join_line {w : World} {ao : Option Addr} {m cap : Nat} {line : List UInt8} (h : Ss w.heap.size w ao m (mem line)) (hm : (mem line).length = m) (hl : line.length ≤ 1048576) (wx : World) (e : wx.heap = w.heap) :
    Calls Try.prog 8 #[.slice ao m cap] wx fun e w' => e = .returned (.string (ba line)) ∧ Upd [] wx w' := by
  have h' : Ss wx.heap.size wx ao m (mem line) := by rw [e]; exact h.heap e
  subst hm
  have := mem_le line
  exact join_any h' (by omega) (by rw [sm_mem]; omega) line (jn_mem line)
theorem drewN_add (w : World) (a b : Nat) : (w.drewN a).drewN b = w.drewN (a + b) := by simp
theorem size9 : (Try.prog.info? 9).map (·.size) = some 1 := by kernel_rfl
/-- 'copy' of all of L's strings into a row that was just made. -/
theorem copy_fresh {w : World} {a : Addr} {len cap : Nat} {L : List (List UInt8)} (h : Ss w.heap.size w (some a) len L) :
    ∃ w2, (Builtin.copy_ #[22, 22] 3 #[.slice (some ⟨w.heap.size, 0, none⟩) len len, .slice (some a) len cap]).run Try.prog (w.alloc (.cells (Zr (.string ByteArray.empty) len) 9)) = .ok (goInt len) w2 ∧ Blk w2 w.heap.size (S9 L) 9 ∧ Upd [] w w2 := by
  have hl9 : (S9 L).length = len := by rw [S9_length, h.hlen]
  have hg : (w.alloc (.cells (Zr (.string ByteArray.empty) len) 9)).heap[w.heap.size]? = some (.cells (Zr (.string ByteArray.empty) len) 9 (0, 0)) := by
    show (w.heap.push _)[w.heap.size]? = _
    simp
  have hrun := run_copy_row (P := Try.prog) (w.alloc (.cells (Zr (.string ByteArray.empty) len) 9)) 22 22 3 9 w.heap.size 0 len len a len cap (Zr (.string ByteArray.empty) len) 9 (S9 L) Try.underlying22 size9 hg (by rw [hl9]; exact (Nat.min_self len).symm) (row_of h) (by rw [hl9]; simp [Zr]) (fun v hv => by simp [S9] at hv; obtain ⟨x, _, rfl⟩ := hv; rfl)
  rw [hl9] at hrun
  refine ⟨_, hrun, ?_, setRow_upd 9 _ _⟩
  have := setRow_heap _ w.heap.size _ ((Zr (.string ByteArray.empty) len).toList.take 0 ++ S9 L ++ (Zr (.string ByteArray.empty) len).toList.drop (0 + len)).toArray 9 (0, 0) hg
  unfold Blk
  rw [this]
  simp [Zr]

set_option maxRecDepth 100000 in
set_option maxHeartbeats 4000000 in
theorem line_main {w : World} {a : Addr} {len cap : Nat} {L : List (List UInt8)} (h : Ss w.heap.size w (some a) len L) (hl : len ≤ 65536) (had : ad L len ≤ 1048576) :
    Calls Try.prog 3 #[.slice (some a) len cap] w fun e w' => e = .returned (.bool true) ∧ Upd [] w w' := by
  obtain ⟨i0, hi, hz0, hz1, hz2⟩ := info_parts info9
  have hbt : bt L len len ≤ 1048576 := by have := bt_ad L len len; omega
  have H := hid (bytes5_ok (cap := cap) h hbt)
  have HA := hid (add6_ok (cap := cap) h had hl)
  have hneq := fun (wx : World) => run_neq_slice_nil (P := Try.prog) wx 22 9 (some a) len cap Try.underlying22
  have HSS := hid h
  have hLl := h.hlen
  have HLL := hid hLl
  have hs9 : (S9 L).length = len := by rw [S9_length, hLl]
  have HS9 := hid hs9
  have HBP : Hid (∀ i, i < len → (L.getD i []).length ≤ 1048576) := hid (fun i hi => Nat.le_trans (bt_part L len hi) hbt)
  have hadl := had
  obtain ⟨A, hA⟩ : ∃ A, ad L len = A := ⟨_, rfl⟩
  rw [hA] at HA hadl
  obtain ⟨w2, hcp, hb2, hu2⟩ := copy_fresh (cap := cap) h
  have HB2 := hid hb2
  have HU2 := hid hu2
  have gi : goInt len = .int .i64 (len : Int) := rfl
  rw [gi] at hcp
  have s2 : Ss w2.heap.size w2 (some ⟨w.heap.size, 0, none⟩) len L := ⟨hLl, fun _ => ⟨_, 0, rfl, hb2.lt, fun i hi => by rw [Nat.zero_add]; exact hb2.cellv (S9_get L i (by omega))⟩⟩
  have hmem : (L.flatMap mem).length ≤ 1048576 := flat_bound hLl had
  obtain ⟨N, hN⟩ : ∃ N, (L.flatMap mem).length = N := ⟨_, rfl⟩
  have HL := hid (list_any (cap := len) s2 (fun i hi => Nat.le_trans (bt_part L len hi) (by omega)) (by omega) (by omega) N hN)
  have HS2 := hid s2
  have HMB := hid hmem
  have HN := hid hN
  clear h hbt hLl hs9 hb2 hu2 s2 hmem hN hA had
  go_enter Try.func3, Try.ntmps3
  go_wp2_with (first | (go_at_call 5; refine H.out.mono ?_; rintro e w1 ⟨rfl, hw1⟩; subst w1) | (go_at_call 6; refine HA.out.mono ?_; rintro e w1 ⟨rfl, hw1⟩; subst w1) | (at_make; refine wpList_make_zero _ rfl (.tmp 21) (.tmp 21) 22 rfl 9 i0 (.string ByteArray.empty) Try.underlying22 hi hz0 hz1 rfl .i64 .i64 _ _ len rfl rfl rfl rfl (by rw [hz2]; omega) (by omega) ?_) | (go_at_call 7; refine HL.out.mono ?_; rintro e w3 ⟨ao3, cap3, rfl, hs3, hu3⟩))
  have HS3 := hid hs3
  have HU3 := hid hu3
  clear hs3 hu3 H HA hneq hcp
  have hNb : N ≤ 1048576 := by rw [← HN.out]; exact HMB.out
  go_loopw [5, 6] (fun p i wr => ∃ k : Nat, k ≤ len ∧ i = .int .i64 k ∧ p = .int .i64 (((L.take k).flatMap mem).length : Int) ∧ Upd [] w3 wr) (fun _ i _ => len - (intOf i).toNat)
  case atStart => exact ⟨0, Nat.zero_le _, rfl, by simp, Upd.refl _ _⟩
  case round =>
    obtain ⟨k, hk, rfl, rfl, hup⟩ := hrel
    by_cases hlt : k < len
    · have S2 : Ss w2.heap.size wr (some ⟨w.heap.size, 0, none⟩) len L := (HS2.out.upd HU3.out (by simp)).upd hup (by simp)
      have c1 : wr.cell? ⟨w.heap.size, k, none⟩ = some (.string (ba (L.getD k []))) := by
        obtain ⟨b', off', ha, hb, hc⟩ := S2.spot (by omega)
        cases ha
        simpa using hc k hlt
      have S1 := S2.one k hlt
      have hll := HBP.out k hlt
      have htf := take_flat L k (by rw [HLL.out]; exact hlt)
      have hfl := flat_le L (k + 1)
      rw [HN.out] at hfl
      have hgetall := all_get L k (by rw [HLL.out]; exact hlt)
      obtain ⟨line, hline⟩ : ∃ line, L.getD k [] = line := ⟨_, rfl⟩
      rw [hline] at c1 S1 hll htf hgetall
      obtain ⟨p, hp⟩ : ∃ p, ((L.take k).flatMap mem).length = p := ⟨_, rfl⟩
      have htl : ((L.take (k + 1)).flatMap mem).length = p + (mem line).length := by rw [htf, List.length_append, hp]
      rw [htl] at hfl
      rw [hp] at hgetall ⊢
      obtain ⟨m, hm⟩ : ∃ m, (mem line).length = m := ⟨_, rfl⟩
      have hmp := mem_pos line
      have hml := mem_le line
      rw [hm] at hmp hml hfl htl hgetall
      have hone : ([line].flatMap mem) = mem line := by simp
      have hone1 : ∀ i, i < 1 → ([line].getD i []).length ≤ 2097152 := by
        intro i hi
        obtain rfl : i = 0 := by omega
        simp; omega
      have HQ := hid (list_any (cap := len - k) (S1.mono (show w2.heap.size ≤ wr.heap.size from Nat.le_trans HU3.out.size hup.size)) hone1 (by omega) (by rw [hone, hm]; omega) m (by rw [hone, hm]))
      rw [hone] at HQ
      have HTL := hid htl
      have HGA := hid hgetall
      have HUP := hid hup
      have HM := hid hm
      clear S2 S1 htf htl hgetall hup hm hone hone1 hline hp
      simp only [Nat.zero_add] at HQ
      go_wp2_with (go_at_call 7; refine HQ.out.mono ?_; rintro e w4 ⟨ao4, cap4, rfl, hs4, hu4⟩)
      have c4 : w4.cell? ⟨w.heap.size, k, none⟩ = some (.string (ba line)) := by
        rw [← c1]; exact World.cell?_of_block (hu4.block _ (World.block_lt_of_cell? wr _ c1) (by simp))
      have tm0 : ((m : Int) == 0) = false := by simp; omega
      have hblk : w.heap.size < w4.heap.size := by simpa using World.block_lt_of_cell? w4 _ c4
      have HJ := hid (join_line (cap := cap4) hs4 HM.out hll)
      have HS4 := hid hs4
      have HU4 := hid hu4
      clear hs4 hu4 c1
      go_region_held3 (fun w' => w'.cell? ⟨w.heap.size, k, none⟩ = some (.string (ba line))) (simp [go_sem, *])
        (first
          | (go_at_call 8; refine (HJ.out _ (by rfl)).mono ?_; rintro e w5 ⟨rfl, hu5⟩
             have g1 : w5.cell? ⟨w.heap.size, k, none⟩ = some (.string (ba line)) := by
               rw [← c4]; exact World.cell?_of_block (hu5.block _ hblk (by simp))))
      have HU5 := hid hu5
      have hwz : w4.drew.heap = w4.heap := rfl
      have T3 : Ss w3.heap.size w5 ao3 N (L.flatMap mem) := ((HS3.out.upd HUP.out (by simp)).upd HU4.out (by simp)).upd (show Upd [] w4 w5 from (Upd.drew [] w4).trans hu5) (by simp)
      have T4 : Ss w4.heap.size w5 ao4 m (mem line) := HS4.out.upd (show Upd [] w4 w5 from (Upd.drew [] w4).trans hu5) (by simp)
      have HT3 := hid T3.spot
      have HT4 := hid T4.spot
      have UALL : Hid (Upd [] w3 w5) := hid ((HUP.out.trans HU4.out).trans ((Upd.drew [] w4).trans hu5))
      clear hu5 g1 c4 hblk hwz T3 T4 HJ HS4 HU4 HU5 HUP HQ
      have wrp : IntKind.i64.wrap ((N : Int) - p) = (N : Int) - p := IntWalk.i64_in _ (by omega)
      have tmp : decide ((N : Int) - p < (m : Int)) = false := by simp; omega
      go_wp2
      go_loopw [8] (fun i wi => ∃ j q : Nat, j ≤ m ∧ i = .int .i64 j ∧ wi = w5.drewN q) (fun i _ => m - (intOf i).toNat)
      case atStart => exact ⟨0, 0, Nat.zero_le _, rfl, rfl⟩
      case round =>
        obtain ⟨j, q, hj, rfl, hwr0⟩ := hrel
        have HWR := hid hwr0
        by_cases hjm : j < m
        · obtain ⟨b3, o3, ha3, hb3, hc3⟩ := HT3.out (by omega)
          cases ha3
          obtain ⟨b4, o4, ha4, hb4, hc4⟩ := HT4.out (by omega)
          cases ha4
          obtain ⟨t, ht⟩ : ∃ t : Nat, (p : Int) + (j : Int) = (t : Int) := ⟨p + j, by simp⟩
          have htn : t < N := by omega
          have wt : IntKind.i64.wrap (t : Int) = (t : Int) := IntWalk.i64_in _ (by omega)
          have e3 : wr.cell? ⟨b3, o3 + t, none⟩ = some (.string (ba ((mem line).getD j []))) := by
            obtain rfl : t = p + j := by omega
            rw [← HGA.out j hjm, ← hc3 (p + j) htn, hwr0]; rfl
          have e4 : wr.cell? ⟨b4, o4 + j, none⟩ = some (.string (ba ((mem line).getD j []))) := by
            rw [← hc4 j hjm, hwr0]; rfl
          obtain ⟨x, hx⟩ : ∃ x, (mem line).getD j [] = x := ⟨_, rfl⟩
          rw [hx] at e3 e4
          clear hc3 hc4 hx hwr0
          go_wp2
          go_quiet (fail)
          go_wp2
          go_roundw
          case rel => exact ⟨j + 1, _, hjm, by go_num, by rw [HWR.out]; exact drewN_add _ _ _⟩
          case measure => simp [intOf]; omega
        · obtain rfl : j = m := by omega
          have wpm : IntKind.i64.wrap ((p : Int) + (j : Int)) = (p : Int) + (j : Int) := IntWalk.i64_in _ (by omega)
          clear hwr0
          go_wp2
          go_roundw
          case rel => exact ⟨k + 1, hlt, by go_num, by rw [HTL.out]; go_num, by rw [HWR.out]; exact UALL.out.trans (Upd.drewN _ _ _)⟩
          case measure => simp [intOf]; omega
    · obtain rfl : k = len := by omega
      have e : (L.take k).flatMap mem = L.flatMap mem := by rw [List.take_of_length_le (by rw [HLL.out]; exact Nat.le_refl _)]
      rw [e, HN.out]
      have tNN : ((N : Int) == (N : Int)) = true := by simp
      go_wp2
      go_ret
      exact ⟨rfl, (HU2.out.trans HU3.out).trans hup⟩
end Go.Proofs.Qxb6616816a
