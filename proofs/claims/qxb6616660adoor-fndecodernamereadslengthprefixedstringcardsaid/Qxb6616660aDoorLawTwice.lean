import Derived.Test.Qxb6616660aDoorBytes
namespace Go.Proofs.Qxb6616660aDoor
open Go.RowKit Go.Qm

/-- Where a cut from l on begins. -/
def cutA (ao : Option Addr) (cap l : Nat) : Option Addr := if cap = l then ao else ao.map (·.add l)
theorem elem22 : Tryd.prog.elem 22 = 5 := by kernel_rfl
theorem under22 : Tryd.prog.underlying 22 = some (.slice (Tryd.prog.elem 22)) := by rw [elem22]; exact Tryd.underlying22
theorem cut_lh (wx : World) (ao : Option Addr) (len cap l h : Nat) (hlh : l ≤ h) (hhc : h ≤ cap) :
    (Instr.slice 22 (.slice ao len cap) (some (.int .i64 (l : Int))) (some (.int .i64 (h : Int))) none).run Tryd.prog wx = .ok (.slice (cutA ao cap l) (h - l) (cap - l)) wx := by
  obtain ⟨i0, hi, hz0, hz1, hz2⟩ := info_parts info5
  rw [run_slice_lh wx 22 ao len cap under22 .i64 .i64 l h (by omega) (by omega) (by omega), elem22]
  simp [sizeOf, typeInfo, hi, hz1, sliced, cutA]
theorem cut_l (wx : World) (ao : Option Addr) (len cap l : Nat) (hl : l ≤ len) :
    (Instr.slice 22 (.slice ao len cap) (some (.int .i64 (l : Int))) none none).run Tryd.prog wx = .ok (.slice (cutA ao cap l) (len - l) (cap - l)) wx := by
  obtain ⟨i0, hi, hz0, hz1, hz2⟩ := info_parts info5
  rw [run_slice_l wx 22 ao len cap under22 .i64 l (by omega) (by omega), elem22]
  simp [sizeOf, typeInfo, hi, hz1, sliced, cutA]

theorem nm_no {l : List UInt8} (h : (nm l).1 = false) : (nm l).2.1 = [] := by
  cases ht : term l with
  | none => rw [nm_none ht]
  | some t =>
    rcases Nat.lt_or_ge (l.length - (t + 1)) (num (dg l (t + 1))) with hv | hv
    · rw [nm_short ht hv]
    · rw [nm_ok ht hv] at h; cases h
theorem nm_yes {l : List UInt8} (h : (nm l).1 = true) : ∃ p n, 1 ≤ p ∧ p ≤ 10 ∧ p + n ≤ l.length ∧ (nm l).2.1 = (l.drop p).take n ∧ (nm l).2.2 = l.drop (p + n) := by
  cases ht : term l with
  | none => rw [nm_none ht] at h; cases h
  | some t =>
    have hT := Term_of ht
    rcases Nat.lt_or_ge (l.length - (t + 1)) (num (dg l (t + 1))) with hv | hv
    · rw [nm_short ht hv] at h; cases h
    · rw [nm_ok ht hv]
      refine ⟨t + 1, num (dg l (t + 1)), by omega, by have := hT.2.1; omega, by have := hT.1; omega, rfl, ?_⟩
      rw [List.drop_drop]
theorem bup {D : Nat} {w w' : World} {ao : Option Addr} {len cap : Nat} {l : List UInt8} (h : Bs D w ao len cap l) (hu : Upd [] w w') : Bs w'.heap.size w' ao len cap l := (h.upd hu (by simp)).top
theorem gup {w w' : World} {v : Value} (h : Hid (w.cell? ⟨0, 0, none⟩ = some v)) (hu : Upd [] w w') : Hid (w'.cell? ⟨0, 0, none⟩ = some v) := by
  have h0 := World.block_lt_of_cell? w _ h.out
  exact hid ((World.cell?_of_block (hu.block 0 h0 (by simp))).trans h.out)

set_option maxRecDepth 100000 in
set_option maxHeartbeats 1000000 in
theorem twice_no {D : Nat} {w : World} {ao : Option Addr} {len cap : Nat} {l : List UInt8} (h : Bs D w ao len cap l) (hl : len ≤ 1048576)
    (T : TypeId) (x : Value) (hG : w.cell? ⟨0, 0, none⟩ = some (.iface T x)) (hok : (nm l).1 = false) :
    Calls Tryd.prog 4 #[.slice ao len cap] w fun e w' => e = .returned (.bool true) ∧ Upd [] w w' := by
  have G := hid hG
  have H := hid h
  have hn := nm_no hok
  have hn2 : nm2 l = (false, [], (nm l).2.2) := by simp [nm2, hok]
  have HN := hid hn
  have HN2 := hid hn2
  have HOK := hid hok
  clear hG h hn hn2 hok
  go_enter Tryd.func4, Tryd.ntmps4
  go_wp2_with (go_at_call 10; go_in)
  -- data = clone(data)
  refine (clone_any H.out (by omega)).mono ?_
  rintro e w1 ⟨ao1, cap1, rfl, hb1, hu1⟩
  have G1 := gup G hu1
  have B1 := hid hb1; clear hb1
  go_wp2_with fail
  refine (clone_any B1.out (by omega)).mono ?_
  rintro e w2 ⟨ao2, cap2, rfl, hb2, hu2⟩
  have B2 := hid hb2; clear hb2
  have G2 := gup G1 hu2
  have C2 := hid (bup B1.out hu2)
  go_wp2_with fail
  refine (zname_any B2.out (by omega) (Nat.le_refl _) T x G2.out).mono ?_
  rintro e w3 ⟨ao3, len3, cap3, er3, rfl, hb3, her3, hlen3, hu3⟩
  have B3 := hid hb3.top; clear hb3
  have G3 := gup G2 hu3
  have C3 := hid (bup C2.out hu3)
  rcases her3 with ⟨hh, _⟩ | ⟨_, T3, v3, rfl⟩
  · rw [HOK.out] at hh; cases hh
  rw [HN.out]
  go_wp2_with fail
  refine (clone_any C3.out (by omega)).mono ?_
  rintro e w4 ⟨ao4, cap4, rfl, hb4, hu4⟩
  have B4 := hid hb4; clear hb4
  have G4 := gup G3 hu4
  have E4 := hid (bup B3.out hu4)
  go_wp2_with fail
  refine (ztwice_any B4.out (by omega) (Nat.le_refl _) T x G4.out).mono ?_
  rintro e w5 ⟨ao5, len5, cap5, ao6, len6, cap6, er5, rfl, hb5, hb6, her5, hlen5, hlen6, hu5⟩
  rw [HN2.out] at her5 hb6
  rcases her5 with ⟨hh, _⟩ | ⟨_, T5, v5, rfl⟩
  · cases hh
  rw [HN.out, HN2.out]
  have B5 := hid hb5.top; have B6 := hid hb6.top
  have E5 := hid (bup E4.out hu5)
  clear hb5 hb6
  go_wp2_with fail
  refine (same_any B5.out E5.out (by omega)).mono ?_
  rintro e w6 ⟨rfl, q, rfl⟩
  go_wp2_with fail
  refine (same_any (bup B6.out (Upd.drewN [] _ q)) (bup E5.out (Upd.drewN [] _ q)) (by omega)).mono ?_
  rintro e w7 ⟨rfl, q2, rfl⟩
  go_wp2
  go_ret
  exact ⟨rfl, ((((hu1.trans hu2).trans hu3).trans hu4).trans hu5).trans (Upd.drewN _ _ _)⟩

theorem nm2_yes {l : List UInt8} (h : (nm l).1 = true) : nm2 l = nm (nm l).2.2 := by simp [nm2, h]

set_option maxRecDepth 100000 in
set_option maxHeartbeats 1000000 in
theorem twice_yes {D : Nat} {w : World} {ao : Option Addr} {len cap : Nat} {l : List UInt8} (h : Bs D w ao len cap l) (hl : len ≤ 1048576)
    (T : TypeId) (x : Value) (hG : w.cell? ⟨0, 0, none⟩ = some (.iface T x)) (hok : (nm l).1 = true) :
    Calls Tryd.prog 4 #[.slice ao len cap] w fun e w' => e = .returned (.bool true) ∧ Upd [] w w' := by
  have G := hid hG
  have H := hid h
  have HN2 := hid (nm2_yes hok)
  obtain ⟨p, n, hp1, hp10, hpn, hname, hrest⟩ := nm_yes hok
  have hlen := h.hlen
  obtain ⟨r, hr⟩ : ∃ r, (nm l).2.2 = r := ⟨_, rfl⟩
  have HR := hid hr
  have HDROP := hid (hr.symm.trans hrest)
  obtain ⟨s1, hs1⟩ : ∃ y, (⟨(nm l).2.1.toArray⟩ : ByteArray) = y := ⟨_, rfl⟩
  have HS1 := hid hs1
  have hs1n : s1.size = n := by rw [← hs1, hname]; simp [ByteArray.size]; omega
  have HNAME := hid hname
  obtain ⟨s2, hs2⟩ : ∃ y, (⟨(nm r).2.1.toArray⟩ : ByteArray) = y := ⟨_, rfl⟩
  have HS2 := hid hs2
  have hpn' : p + n ≤ len := by omega
  have hrl : r.length = len - (p + n) := by rw [← hr, hrest, List.length_drop]; omega
  have HRL := hid hrl
  have HLEN := hid hlen
  have HS1N := hid hs1n
  have HOK := hid hok
  clear hG h hok hname hrest hr hs1 hs2 hrl hlen hpn hs1n
  go_enter Tryd.func4, Tryd.ntmps4
  go_wp2_with (go_at_call 10; go_in)
  -- data = clone(data)
  refine (clone_any H.out (by omega)).mono ?_
  rintro e w1 ⟨ao1, cap1, rfl, hb1, hu1⟩
  have G1 := gup G hu1
  have B1 := hid hb1; clear hb1
  go_wp2_with fail
  refine (clone_any B1.out (by omega)).mono ?_
  rintro e w2 ⟨ao2, cap2, rfl, hb2, hu2⟩
  have B2 := hid hb2; clear hb2
  have G2 := gup G1 hu2
  have C2 := hid (bup B1.out hu2)
  go_wp2_with fail
  refine (zname_any B2.out (by omega) (Nat.le_refl _) T x G2.out).mono ?_
  rintro e w3 ⟨ao3, len3, cap3, er3, rfl, hb3, her3, hlen3, hu3⟩
  rw [HR.out] at hb3
  rw [HS1.out]
  have B3 := hid hb3.top; clear hb3
  have G3 := gup G2 hu3
  have C3 := hid (bup C2.out hu3)
  have hl3 := hid (show len3 = len - (p + n) by rw [← B3.out.hlen, HRL.out])
  obtain ⟨u, hu⟩ : ∃ u, p + n = u := ⟨_, rfl⟩
  have HU := hid hu; clear hu
  rcases her3 with ⟨_, rfl⟩ | ⟨hh, _⟩
  rotate_left
  · rw [HOK.out] at hh; cases hh
  go_wp2_with fail
  refine (clone_any C3.out (by omega)).mono ?_
  rintro e w4 ⟨ao4, cap4, rfl, hb4, hu4⟩
  have B4 := hid hb4; clear hb4
  have G4 := gup G3 hu4
  have C4 := hid (bup C3.out hu4)
  have E4 := hid (bup B3.out hu4)
  go_wp2_with fail
  refine (ztwice_any B4.out (by omega) (Nat.le_refl _) T x G4.out).mono ?_
  rintro e w5 ⟨ao5, len5, cap5, ao6, len6, cap6, er5, rfl, hb5, hb6, her5, hlen5, hlen6, hu5⟩
  rw [HN2.out, HR.out] at her5 hb6
  rw [HN2.out, HR.out, HS1.out, HS2.out]
  rw [HR.out] at hb5
  have B5 := hid hb5.top; have B6 := hid hb6.top
  have G5 := gup G4 hu5
  have C5 := hid (bup C4.out hu5)
  have E5 := hid (bup E4.out hu5)
  clear hb5 hb6
  go_wp2_with fail
  refine (same_any B5.out E5.out (by omega)).mono ?_
  rintro e w6 ⟨rfl, q, rfl⟩
  have G6 := gup G5 (Upd.drewN [] _ q)
  have C6 := hid (bup C5.out (Upd.drewN [] _ q))
  have E6 := hid (bup E5.out (Upd.drewN [] _ q))
  have B66 := hid (bup B6.out (Upd.drewN [] _ q))
  have hsz := HS1N.out
  have cc := C6.out.hcap
  have e1 : (len : Int) - (len3 : Int) = (u : Int) := by have := hl3.out; have := HU.out; omega
  have e2 : (u : Int) - (n : Int) = (p : Int) := by have := HU.out; omega
  have k1 := fun wx => cut_lh wx ao1 len cap1 p u (by have := HU.out; omega) (by have := HU.out; omega)
  have k2 := fun wx => cut_l wx ao1 len cap1 u (by have := HU.out; omega)
  have hup : u - p = n := by have := HU.out; omega
  have X1 := (C6.out.drop p (by omega) (ao' := cutA ao1 cap1 p) rfl).take n (by omega)
  have k3 := conv_bs X1
  have hs1e : (⟨((l.drop p).take n).toArray⟩ : ByteArray) = s1 := by rw [← HS1.out, HNAME.out]
  rw [hs1e] at k3
  have X2 := hid (C6.out.drop u (by have := HU.out; omega) (ao' := cutA ao1 cap1 u) rfl)
  rw [← HU.out, ← HDROP.out, HU.out] at X2
  clear X1 hs1e
  go_wp2_with fail
  refine (same_any E6.out X2.out (by have := hl3.out; omega)).mono ?_
  rintro e w7 ⟨rfl, q2, rfl⟩
  clear k1 k2 k3 e1 e2 hup
  have G7 := gup G5 (Upd.drewN [] _ (q + q2))
  have E7 := hid (bup E5.out (Upd.drewN [] _ (q + q2)))
  have B7 := hid (bup B6.out (Upd.drewN [] _ (q + q2)))
  go_wp2_with fail
  refine (clone_any E7.out (by have := hl3.out; omega)).mono ?_
  rintro e w8 ⟨ao8, cap8, rfl, hb8, hu8⟩
  have G8 := gup G7 hu8
  have B8 := hid hb8; clear hb8
  have F8 := hid (bup B7.out hu8)
  go_wp2_with fail
  refine (zname_any B8.out (by have := hl3.out; omega) (Nat.le_refl _) T x G8.out).mono ?_
  rintro e w9 ⟨ao9, len9, cap9, er9, rfl, hb9, her9, hlen9, hu9⟩
  rw [HS2.out]
  have B9 := hid hb9.top; clear hb9
  have F9 := hid (bup F8.out hu9)
  have hfin : Upd [] w w9 := ((((((hu1.trans hu2).trans hu3).trans hu4).trans hu5).trans (Upd.drewN _ _ _)).trans hu8).trans hu9
  have ss : (s2.toList == s2.toList) = true := by simp
  have HFIN := hid hfin
  clear hfin
  rcases her5 with ⟨hb, rfl⟩ | ⟨hb, T5, v5, rfl⟩
  · rcases her9 with ⟨_, rfl⟩ | ⟨hh, _⟩
    rotate_left
    · rw [hb] at hh; cases hh
    clear hb
    go_wp2
    go_quiet ((go_at_call 8; refine Calls.quiet_of (same_any (bup F9.out (Upd.drewN [] _ _)) (bup B9.out (Upd.drewN [] _ _)) (by omega))))
    go_wp2
    go_ret
    exact ⟨rfl, HFIN.out.trans (Upd.drewN _ _ _)⟩
  · rcases her9 with ⟨hh, _⟩ | ⟨_, T9, v9, rfl⟩
    · rw [hb] at hh; cases hh
    clear hb
    go_wp2
    go_quiet ((go_at_call 8; refine Calls.quiet_of (same_any (bup F9.out (Upd.drewN [] _ _)) (bup B9.out (Upd.drewN [] _ _)) (by omega))))
    go_wp2
    go_ret
    exact ⟨rfl, HFIN.out.trans (Upd.drewN _ _ _)⟩

theorem twice_any {D : Nat} {w : World} {ao : Option Addr} {len cap : Nat} {l : List UInt8} (h : Bs D w ao len cap l) (hl : len ≤ 1048576)
    (T : TypeId) (x : Value) (hG : w.cell? ⟨0, 0, none⟩ = some (.iface T x)) :
    Calls Tryd.prog 4 #[.slice ao len cap] w fun e w' => e = .returned (.bool true) ∧ Upd [] w w' := by
  cases hok : (nm l).1 with
  | false => exact twice_no h hl T x hG hok
  | true => exact twice_yes h hl T x hG hok

set_option maxHeartbeats 400000 in
theorem twice_big {w : World} {ao : Option Addr} {len cap : Nat} (hl : 1048576 < len) (hm : len ≤ 9223372036854775807) :
    Calls Tryd.prog 4 #[.slice ao len cap] w fun e w' => e = .returned (.bool true) ∧ w' = w := by
  go_enter Tryd.func4, Tryd.ntmps4
  go_wp2
  go_ret
  exact ⟨rfl, rfl⟩
end Go.Proofs.Qxb6616660aDoor
