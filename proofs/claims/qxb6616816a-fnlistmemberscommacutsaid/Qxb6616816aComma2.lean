import Derived.Test.Qxb6616816aComma
namespace Go.Proofs.Qxb6616816a
open Go.RowKit Go.Qm

theorem Ss.of_own2 {w : World} {B : Nat} {v : Value} {xs : List (List UInt8)} (h : w.ownsRow B 9 1 v xs.length (S9 xs)) : ∃ ao cap, v = .slice ao xs.length cap ∧ xs.length ≤ cap ∧ Ss w.heap.size w ao xs.length xs := by
  obtain ⟨ao, cap, hv, hs⟩ := Ss.of_own h
  refine ⟨ao, cap, hv, ?_, hs⟩
  rcases h.2 with ⟨_, h0⟩ | ⟨g, cap', cur, hv', hg, hh, hnc, _⟩
  · omega
  · rw [hv] at hv'
    simp at hv'
    omega

set_option maxHeartbeats 1000000 in
/-- ZZlistMembers, with its room. -/
theorem list_any2 {w : World} {ao : Option Addr} {len cap : Nat} {L : List (List UInt8)} (h : Ss w.heap.size w ao len L) (hL : ∀ i, i < len → (L.getD i []).length ≤ 2097152) (hlen : len ≤ 2097152) (hm : (L.flatMap mem).length ≤ 2097152) (n : Nat) (hn : (L.flatMap mem).length = n) :
    Calls Try.prog 7 #[.slice ao len cap] w fun e w' => ∃ ao' cap', e = .returned (.slice ao' n cap') ∧ n ≤ cap' ∧ Ss w'.heap.size w' ao' n (L.flatMap mem) ∧ Upd [] w w' := by
  have b0 : Blk (w.alloc (.cells #[.slice none 0 0] 22)) w.heap.size [.slice none 0 0] 22 := Blk.new w [.slice none 0 0] 22
  have ho : Out (w.alloc (.cells #[.slice none 0 0] 22)) w.heap.size [] := ⟨_, b0, World.ownsRow_nil _ _ _ _⟩
  have hs : Ss w.heap.size (w.alloc (.cells #[.slice none 0 0] 22)) ao len L := h.upd (Upd.alloc [] w _) (by simp)
  have HE := hid (each_any (cap := cap) hs ho hL hlen (by simpa using hm))
  have HN := hid hn
  clear h b0 ho hs hL hm hn
  go_enter Try.func7, Try.ntmps7
  go_wp2_with (go_at_call 14; refine HE.out.mono ?_; rintro e w1 ⟨rfl, ⟨v, hb, hown⟩, hbel⟩; have c0 : w1.cell? ⟨w.heap.size, 0, none⟩ = some v := hb.cellv rfl)
  go_ret
  rw [List.nil_append] at hown
  obtain ⟨ao', cap', rfl, hcap, hss⟩ := Ss.of_own2 hown
  rw [HN.out] at hss hcap ⊢
  refine ⟨ao', cap', rfl, hcap, hss, ?_⟩
  have u1 := Upd.alloc [] w (.cells #[.slice none 0 0] 22)
  exact ⟨hbel.os.trans u1.os, hbel.tape.trans u1.tape, hbel.output.trans u1.output, Nat.le_trans u1.size hbel.size, fun k hk hx => (hbel.block k hk).trans (u1.block k hk hx)⟩

/-- ZZlistMembers of one line, written out on the spot. -/
theorem list_lit (x : List UInt8) (w : World) (hl : x.length ≤ 1048576) (n : Nat) (hn : (mem x).length = n) :
    Calls Try.prog 7 #[.slice (some ⟨w.heap.size, 0, none⟩) 1 1] (w.alloc (.cells #[.string (ba x)] 9)) fun e w' => ∃ ao' cap', e = .returned (.slice ao' n cap') ∧ n ≤ cap' ∧ Ss w'.heap.size w' ao' n (mem x) ∧ Upd [] w w' := by
  have hb : Blk (w.alloc (.cells #[.string (ba x)] 9)) w.heap.size [.string (ba x)] 9 := Blk.new w [.string (ba x)] 9
  have hs : Ss (w.alloc (.cells #[.string (ba x)] 9)).heap.size (w.alloc (.cells #[.string (ba x)] 9)) (some ⟨w.heap.size, 0, none⟩) 1 [x] :=
    ⟨rfl, fun _ => ⟨_, 0, rfl, hb.lt, fun i hi => by
      obtain rfl : i = 0 := by omega
      exact hb.cellv rfl⟩⟩
  have hone : ([x].flatMap mem) = mem x := by simp
  have hle := mem_le x
  have h1 : ∀ i, i < 1 → ([x].getD i []).length ≤ 2097152 := by
    intro i hi
    obtain rfl : i = 0 := by omega
    simp; omega
  refine (list_any2 (cap := 1) hs h1 (by omega) (by rw [hone]; omega) n (by rw [hone]; exact hn)).mono ?_
  rintro e w' ⟨ao', cap', rfl, k0, k1, k2⟩
  rw [hone] at k1
  exact ⟨ao', cap', rfl, k0, k1, (Upd.alloc [] w _).trans k2⟩

theorem ba_add (x y : List UInt8) : ba x ++ ba y = ba (x ++ y) := by
  apply ByteArray.ext
  simp [ba, ByteArray.data_append]

theorem part_le (l : List UInt8) (i : Nat) (hi : i < (mem l).length) : ((mem l).getD i []).length ≤ l.length := by
  have h1 := sm_mono (mem l) (show i + 1 ≤ (mem l).length by omega)
  rw [sm_mem] at h1
  simp only [sm] at h1
  omega
theorem Ss.tail {D : Nat} {w : World} {b off n : Nat} {x : List UInt8} {R : List (List UInt8)} (h : Ss D w (some ⟨b, off, none⟩) (n + 1) (x :: R)) : Ss D w (some ⟨b, off + 1, none⟩) n R := by
  have hl := h.hlen
  refine ⟨by simp at hl; exact hl, fun hp => ?_⟩
  obtain ⟨b', off', ha, hb, hc⟩ := h.spot (by omega)
  cases ha
  refine ⟨b, off + 1, rfl, hb, fun i hi => ?_⟩
  have := hc (i + 1) (by omega)
  rw [show off + 1 + i = off + (i + 1) by omega, this]
  simp

set_option maxRecDepth 100000 in
set_option maxHeartbeats 4000000 in
theorem comma_main (a b q : List UInt8) (w : World) (h1 : a.length ≤ 262144) (h2 : b.length ≤ 262144) (h3 : q.length ≤ 262144) (hx : has 34 a = false) (hy : has 34 q = false) (hz : has 92 q = false) :
    Calls Try.prog 4 #[.string (ba a), .string (ba b), .string (ba q)] w fun e w' => e = .returned (.bool true) ∧ Upd [] w w' := by
  have H := hid (bytes9_ok a b q w (by omega))
  have HX := hid (has_any a 34 34 rfl w (by omega))
  have HY := hid (has_any q 34 34 rfl w (by omega))
  have HZ := hid (has_any q 92 92 rfl w (by omega))
  rw [hx] at HX
  rw [hy] at HY
  rw [hz] at HZ
  obtain ⟨p1, p2, p3⟩ := plain4 _ a rfl (has_no hx)
  have pq := plainq q b (has_no hy) (has_no hz)
  have P1 := hid p1
  have P2 := hid p2
  have P3 := hid (p3 b)
  have PQ := hid pq
  have ha := ba_size a
  have hb := ba_size b
  have hq := ba_size q
  obtain ⟨ab, hab⟩ : ∃ l, a ++ 44 :: b = l := ⟨_, rfl⟩
  obtain ⟨qq, hqq⟩ : ∃ l, 34 :: q ++ [34] = l := ⟨_, rfl⟩
  rw [hab] at P3
  rw [hqq] at PQ
  obtain ⟨qb, hqb⟩ : ∃ l, qq ++ 44 :: b = l := ⟨_, rfl⟩
  rw [hqb] at PQ
  have hlab : ab.length = a.length + b.length + 1 := by rw [← hab]; simp; omega
  have hlqq : qq.length = q.length + 2 := by rw [← hqq]; simp
  have hlqb : qb.length = qq.length + b.length + 1 := by rw [← hqb]; simp; omega
  have r1 : ba a ++ ({ data := #[44] } : ByteArray) ++ ba b = ba ab := by rw [← hab, show ({ data := #[44] } : ByteArray) = ba [44] from rfl, ba_add, ba_add]; simp
  have r2 : ({ data := #[34] } : ByteArray) ++ ba q ++ ({ data := #[34] } : ByteArray) = ba qq := by rw [← hqq, show ({ data := #[34] } : ByteArray) = ba [34] from rfl, ba_add, ba_add]; simp
  have r3 : ba qq ++ ({ data := #[44] } : ByteArray) ++ ba b = ba qb := by rw [← hqb, show ({ data := #[44] } : ByteArray) = ba [44] from rfl, ba_add, ba_add]; simp
  have hsqq := ba_size qq
  clear hx hy hz p1 p2 p3 pq hab hqq hqb
  go_enter Try.func4, Try.ntmps4
  go_wp2_with (go_at_call 9; refine H.out.mono ?_; rintro e w1 ⟨rfl, hw1⟩; subst w1)
  go_at_call 10
  refine HX.out.mono ?_
  rintro e w1 ⟨rfl, hw1⟩
  subst w1
  go_wp2_with (fail)
  go_at_call 10
  refine HY.out.mono ?_
  rintro e w1 ⟨rfl, hw1⟩
  subst w1
  go_wp2_with (fail)
  go_at_call 10
  refine HZ.out.mono ?_
  rintro e w1 ⟨rfl, hw1⟩
  subst w1
  clear H HX HY HZ
  obtain ⟨na, hna⟩ : ∃ n, (mem a).length = n := ⟨_, rfl⟩
  obtain ⟨nb, hnb⟩ : ∃ n, (mem b).length = n := ⟨_, rfl⟩
  have HNA := hid hna
  have HNB := hid hnb
  clear hna hnb
  go_wp2_with (fail)
  go_at_call 7
  refine (list_lit a w (by omega) na HNA.out).mono ?_
  rintro e w1 ⟨aoa, capa, rfl, _, sa, ua⟩
  go_wp2_with (fail)
  go_at_call 7
  refine (list_lit b w1 (by omega) nb HNB.out).mono ?_
  rintro e w2 ⟨aob, capb, rfl, _, sb, ub⟩
  go_wp2_with (fail)
  go_at_call 7
  refine (list_lit ab w2 (by omega) (na + nb) (by rw [P3.out, List.length_append, HNA.out, HNB.out])).mono ?_
  rintro e w3 ⟨aoab, capab, rfl, _, sab, uab⟩
  go_wp2_with (fail)
  go_at_call 7
  refine (list_lit qb w3 (by omega) (nb + 1) (by rw [PQ.out, List.length_cons, HNB.out])).mono ?_
  rintro e w4 ⟨aoq, capq, rfl, hcq, sq, uq⟩
  rw [P3.out] at sab
  rw [PQ.out] at sq
  have SA := hid (((sa.upd ub (by simp)).upd uab (by simp)).upd uq (by simp))
  have SB := hid ((sb.upd uab (by simp)).upd uq (by simp))
  have SAB := hid (sab.upd uq (by simp))
  have SQ := hid sq
  have U4 := hid (((ua.trans ub).trans uab).trans uq)
  have z1 : w1.heap.size ≤ w4.heap.size := Nat.le_trans ub.size (Nat.le_trans uab.size uq.size)
  have z2 : w2.heap.size ≤ w4.heap.size := Nat.le_trans uab.size uq.size
  have z3 : w3.heap.size ≤ w4.heap.size := uq.size
  clear sa sb sab sq ua ub uab uq
  obtain ⟨N, hN⟩ : ∃ N, cnt 44 a = N := ⟨_, rfl⟩
  have hNn : (N : Int) + 1 = (na : Int) := by have := P1.out; rw [HNA.out, hN] at this; omega
  have hna1 : na ≤ 262145 := by have := mem_le a; rw [HNA.out] at this; omega
  have hnb1 : nb ≤ 262145 := by have := mem_le b; rw [HNB.out] at this; omega
  have hna0 : 0 < na := by have := mem_pos a; rw [HNA.out] at this; omega
  have hnb0 : 0 < nb := by have := mem_pos b; rw [HNB.out] at this; omega
  have wna : IntKind.i64.wrap (na : Int) = (na : Int) := IntWalk.i64_in _ (by omega)
  have tna : ((na : Int) != (na : Int)) = false := by simp
  have HC := hid fun wx => count_any a wx (by omega) N hN
  have HJ := hid (join_line (cap := capa) (SA.out.mono z1) HNA.out (by omega))
  clear hN
  go_wp2_with (first | (go_at_call 11; refine (HC.out _).mono ?_; rintro e w5 ⟨rfl, hw5⟩; subst w5) | (go_at_call 8; refine (HJ.out _ (by rfl)).mono ?_; rintro e w5 ⟨rfl, u5⟩))
  have TA := hid (SA.out.upd u5 (by simp))
  have TB := hid (SB.out.upd u5 (by simp))
  have TAB := hid (SAB.out.upd u5 (by simp))
  have TQ := hid (SQ.out.upd u5 (by simp))
  have U5 := hid (U4.out.trans u5)
  have y1 : w4.heap.size ≤ w5.heap.size := u5.size
  clear u5 SA SB SAB SQ U4 HC HJ
  go_loopw [12] (fun i wr => ∃ k : Nat, k ≤ na ∧ i = .int .i64 k ∧ wr = w5) (fun i _ => na - (intOf i).toNat)
  case atStart => exact ⟨0, Nat.zero_le _, rfl, rfl⟩
  case round =>
    obtain ⟨k, hk, rfl, hwr⟩ := hrel
    subst wr
    by_cases hlt : k < na
    · obtain ⟨b', off', ha', hb', hc'⟩ := TA.out.spot hna0
      cases ha'
      have c1 := hc' k hlt
      have hpl := part_le a k (by rw [HNA.out]; exact hlt)
      have hno : has 44 ((mem a).getD k []) = false := no_has (P2.out _ (by
        have hkl : k < (mem a).length := by rw [HNA.out]; exact hlt
        simp [List.getD, hkl]))
      obtain ⟨x, hx⟩ : ∃ x, (mem a).getD k [] = x := ⟨_, rfl⟩
      rw [hx] at c1 hno hpl
      have HH := hid (has_any x 44 44 rfl w5 (by omega))
      rw [hno] at HH
      clear hc' hx hno
      go_wp2_with (go_at_call 10; refine HH.out.mono ?_; rintro e w6 ⟨rfl, hw6⟩; subst w6)
      go_roundw
      case rel => exact ⟨k + 1, hlt, by go_num, trivial⟩
      case measure => simp [intOf]; omega
    · have HCC := hid (concat_any (cap := capa) (cap' := capb) (TA.out.mono (show w1.heap.size ≤ w5.heap.size by omega)) (TB.out.mono (show w2.heap.size ≤ w5.heap.size by omega)) (by omega) (by omega) hna0 hnb0)
      go_wp2_with (go_at_call 13; refine HCC.out.mono ?_; rintro e w6 ⟨ao6, cap6, rfl, s6, u6⟩)
      have HSM := hid (same_any (cap := capab) (cap' := cap6) (TAB.out.upd u6 (by simp)) s6 (by omega))
      have VB := hid (TB.out.upd u6 (by simp))
      have VQ := hid (TQ.out.upd u6 (by simp))
      have U6 := hid (U5.out.trans u6)
      clear s6 u6 HCC
      go_at_call 12
      refine HSM.out.mono ?_
      rintro e w7 ⟨rfl, q7, hw7⟩
      obtain ⟨bq, oq, haq, hbq, hcq'⟩ := VQ.out.spot (by omega)
      cases haq
      have WB := hid (VB.out.heap (w' := w7) (by rw [hw7]; rfl))
      have WQ := hid ((VQ.out.heap (w' := w7) (by rw [hw7]; rfl)).tail)
      have c0 : w7.cell? ⟨bq, oq, none⟩ = some (.string (ba qq)) := by
        rw [hw7]; have := hcq' 0 (by omega); simpa using this
      have U7 : Hid (Upd [] w w7) := hid (by rw [hw7]; exact U6.out.trans (Upd.drewN _ _ _))
      have HSQ := hid (same_any (cap := capq - 1) (cap' := capb) WQ.out WB.out (by omega))
      obtain ⟨nq, hnq⟩ : ∃ nq, nb + 1 = nq := ⟨_, rfl⟩
      have hnqi : 1 + (nb : Int) = (nq : Int) := by omega
      have wnq : IntKind.i64.wrap (nq : Int) = (nq : Int) := IntWalk.i64_in _ (by omega)
      have tnq : ((nq : Int) == (nq : Int)) = true := by simp
      have hnq1 : nq - 1 = nb := by omega
      rw [hnq] at hcq ⊢
      have hnqp : 1 ≤ nq := by omega
      clear hw7 hcq' hnq
      go_wp2_with (fail)
      go_at_call 12
      refine HSQ.out.mono ?_
      rintro e w8 ⟨rfl, q8, rfl⟩
      go_wp2
      go_ret
      exact ⟨rfl, U7.out.trans (Upd.drewN _ _ _)⟩
end Go.Proofs.Qxb6616816a
