import Derived.Test.Qxb6616660aGrow
namespace Go.Proofs.Qxb6616660a
open Go.RowKit Go.Qm

/-- A run that holds nothing yet. -/
def Bz (w : World) (b : Nat) : Prop := Blk w b [.int .i64 0, .slice none 0 0, .int .u64 0, .int .u8 0, .int .u8 0, .int .i64 0, .int .i64 0, .int .i64 0] 56
theorem Bz.heap {w w' : World} {b : Nat} (h : Bz w b) (e : w'.heap = w.heap) : Bz w' b := Blk_heap h e

set_option maxHeartbeats 400000 in
theorem len_z {w : World} {b : Nat} (h : Bz w b) :
    Calls Try.prog 25 #[.pointer (some ⟨b, 1, none⟩)] w fun e w' => e = .returned (.int .i64 0) ∧ ∃ k, w' = w.drewN k := by
  have c1 : w.cell? ⟨b, 1, none⟩ = some (.slice none 0 0) := Blk.cellv h rfl
  have c4 : w.cell? ⟨b, 4, none⟩ = some (.int .u8 0) := Blk.cellv h rfl
  have r0 := rule0
  go_enter Try.func25, Try.ntmps25
  go_wp2
  go_quiet (fail)
  go_wp2
  go_ret
  exact ⟨rfl, _, rfl⟩

set_option maxHeartbeats 400000 in
theorem empty_yes {w : World} {b : Nat} (h : Bz w b) :
    Calls Try.prog 38 #[.pointer (some ⟨b, 0, none⟩)] w fun e w' => e = .returned (.bool true) ∧ ∃ q, w' = w.drewN q := by
  have H := hid (len_z h)
  clear h
  go_enter Try.func38, Try.ntmps38
  go_wp2_with (go_at_call 25; refine H.out.mono ?_; rintro e w1 ⟨rfl, q, rfl⟩)
  go_ret
  exact ⟨rfl, _, rfl⟩

theorem store7 {w : World} {b : Nat} (h : Bz w b) (lo hi off' : Int) (g' n' bl' : Nat) {w1 : World} (hu : Upd [] ((w.setCell ⟨b, 5, none⟩ (.int .i64 lo)).setCell ⟨b, 6, none⟩ (.int .i64 hi)) w1) :
    Blk w1 b [.int .i64 0, .slice none 0 0, .int .u64 0, .int .u8 0, .int .u8 0, .int .i64 lo, .int .i64 hi, .int .i64 0] 56 ∧
    Blk (((((w1.setCell ⟨b, 0, none⟩ (.int .i64 off')).setCell ⟨b, 1, none⟩ (.slice (some ⟨g', 0, none⟩) n' n')).setCell ⟨b, 2, none⟩ (.int .u64 ((full bl' : Nat) : Int))).setCell ⟨b, 3, none⟩ (.int .u8 (bl' : Int))).setCell ⟨b, 4, none⟩ (.int .u8 ((6 - bl' : Nat) : Int))) b (cells8 off' g' n' bl' lo hi 0) 56 ∧
    (∀ b' cs T', Blk w1 b' cs T' → b' ≠ b → Blk (((((w1.setCell ⟨b, 0, none⟩ (.int .i64 off')).setCell ⟨b, 1, none⟩ (.slice (some ⟨g', 0, none⟩) n' n')).setCell ⟨b, 2, none⟩ (.int .u64 ((full bl' : Nat) : Int))).setCell ⟨b, 3, none⟩ (.int .u8 (bl' : Int))).setCell ⟨b, 4, none⟩ (.int .u8 ((6 - bl' : Nat) : Int))) b' cs T') ∧
    Upd [b] w (((((w1.setCell ⟨b, 0, none⟩ (.int .i64 off')).setCell ⟨b, 1, none⟩ (.slice (some ⟨g', 0, none⟩) n' n')).setCell ⟨b, 2, none⟩ (.int .u64 ((full bl' : Nat) : Int))).setCell ⟨b, 3, none⟩ (.int .u8 (bl' : Int))).setCell ⟨b, 4, none⟩ (.int .u8 ((6 - bl' : Nat) : Int))) := by
  have h1 : Blk ((w.setCell ⟨b, 5, none⟩ (.int .i64 lo)).setCell ⟨b, 6, none⟩ (.int .i64 hi)) b [.int .i64 0, .slice none 0 0, .int .u64 0, .int .u8 0, .int .u8 0, .int .i64 lo, .int .i64 hi, .int .i64 0] 56 := (Blk.set (Blk.set h 5 _) 6 _)
  have h2 := hu.blk h1 (by simp)
  refine ⟨h2, ((((h2.set 0 _).set 1 _).set 2 _).set 3 _).set 4 _, fun b' cs T' hb hne => ((((hb.set_other _ hne).set_other _ hne).set_other _ hne).set_other _ hne).set_other _ hne, ?_⟩
  have u1 : Upd [b] w w1 := ((Upd.setCell w (Or.inl (by simp)) _).trans (Upd.setCell _ (Or.inl (by simp)) _)).trans (hu.mono (by simp))
  exact ((((u1.trans (Upd.setCell _ (Or.inl (by simp)) _)).trans (Upd.setCell _ (Or.inl (by simp)) _)).trans (Upd.setCell _ (Or.inl (by simp)) _)).trans (Upd.setCell _ (Or.inl (by simp)) _)).trans (Upd.setCell _ (Or.inl (by simp)) _)

set_option maxRecDepth 100000 in
set_option maxHeartbeats 2000000 in
theorem grow_z {w : World} {b : Nat} (h : Bz w b) (lo hi : Int) (hlh : lo ≤ hi) (hw : hi - lo < 65536) (hw1 : -4611686018427387904 ≤ lo) (hw2 : hi ≤ 4611686018427387904) :
    Calls Try.prog 34 #[.pointer (some ⟨b, 0, none⟩), .int .i64 lo, .int .i64 hi] w
      fun e w' => e = .returned (.tuple #[]) ∧ ∃ (off' : Int) (L' g' : Nat) (ws' : List Nat), w.heap.size ≤ g' ∧ Bk w' b off' lo hi 0 L' (fun _ => 0) g' ws' 3 ∧ Upd [b] w w' := by
  have H := hid fun wx e => empty_yes (Bz.heap (w' := wx) h e)
  have c5 : w.cell? ⟨b, 5, none⟩ = some (.int .i64 0) := Blk.cellv h rfl
  have c6 : w.cell? ⟨b, 6, none⟩ = some (.int .i64 0) := Blk.cellv h rfl
  have z5 : w.frozen? ⟨b, 5, none⟩ = false := Blk.frozen h 5
  have z6 : w.frozen? ⟨b, 6, none⟩ = false := Blk.frozen h 6
  obtain ⟨sp, hsp⟩ : ∃ sp : Nat, hi - lo + 1 = (sp : Int) := ⟨(hi - lo + 1).toNat, by omega⟩
  obtain ⟨n, hn⟩ : ∃ n, n = max (sp + sp / 4) 16 := ⟨_, rfl⟩
  obtain ⟨n1, n2, n3, n4, n5⟩ := grow_nums hsp hn (by omega) (by omega)
  have hsp0 : 0 ≤ hi - lo := by omega
  obtain ⟨start, hst⟩ : ∃ start, lo - lo % 8 = start := ⟨_, rfl⟩
  obtain ⟨n', hn'⟩ : ∃ n' : Nat, (n : Int) + lo - start = (n' : Int) := ⟨((n : Int) + lo - start).toNat, by omega⟩
  obtain ⟨m, hm⟩ : ∃ m, (n' + per 3 - 1) / per 3 = m := ⟨_, rfl⟩
  have HR := hid fun wx => rs_any lo wx (by omega) (by omega)
  rw [hst] at HR
  have HM0 := fun wx => make_any n' m 3 wx (by decide) (by decide) (by omega) hm
  simp only [Int.cast_ofNat_Int] at HM0
  have HM := hid HM0
  have hfin : Hid (start ≤ lo ∧ hi < start + n' ∧ start % 8 = 0 ∧ n' ≤ m * per 3 ∧ m * per 3 ≤ 200000 ∧ m ≤ 2097152) := hid (by rw [per3] at hm ⊢; omega)
  have hb5 : start ≤ lo := by omega
  have hb6 : lo ≤ start + 7 := by omega
  have hdec : decide (lo < lo) = false := by simp
  have hmn : min lo lo = lo := by omega
  have hmx : max hi hi = hi := by omega
  have HZ := hid h
  have hbw := Blk.lt h
  clear hst h hn hm HM0
  go_enter Try.func34, Try.ntmps34
  go_wp2_with (go_at_call 38; refine (H.out _ (by rfl)).mono ?_; rintro e w1 ⟨rfl, q, rfl⟩)
  go_quiet (fail)
  go_wp2_with (first | (go_at_call 39; refine (HR.out _).mono ?_; rintro e w1 ⟨rfl, rfl⟩))
  refine (HM.out _).mono ?_
  rintro e w2 ⟨gc, hgc, rfl, hrow, hu⟩
  have hu' : Upd [] ((w.setCell ⟨b, 5, none⟩ (.int .i64 lo)).setCell ⟨b, 6, none⟩ (.int .i64 hi)) w2 := ⟨hu.os, hu.tape, hu.output, hu.size, hu.block⟩
  have hgc' : w.heap.size ≤ gc := by simpa [World.setCell] using hgc
  obtain ⟨C5, k1, k2, k3⟩ := store7 HZ.out lo hi start gc m 3 hu'
  have s0 : w2.cell? ⟨b, 0, none⟩ = some (.int .i64 0) := C5.cellv rfl
  have s1 : w2.cell? ⟨b, 1, none⟩ = some (.slice none 0 0) := C5.cellv rfl
  have s2 : w2.cell? ⟨b, 2, none⟩ = some (.int .u64 0) := C5.cellv rfl
  have s3 : w2.cell? ⟨b, 3, none⟩ = some (.int .u8 0) := C5.cellv rfl
  have s4 : w2.cell? ⟨b, 4, none⟩ = some (.int .u8 0) := C5.cellv rfl
  have z0 := C5.frozen 0
  have z1 := C5.frozen 1
  have z2 := C5.frozen 2
  have z3 := C5.frozen 3
  have z4 := C5.frozen 4
  have K1 := hid k1
  have K2 := hid (k2 gc _ _ hrow (by omega))
  have K3 := hid k3
  clear C5 hrow hu hu' hgc k1 k2 k3 c5 c6 z5 z6
  go_wp2
  refine bodyPost_ret (v := .tuple #[]) (by simp [results, Try.results34, go_sem]) rfl ?_
  obtain ⟨f1, f2, f3, f4, f5, f6⟩ := hfin.out
  have hlen : (List.replicate m 0).length = m := List.length_replicate ..
  refine ⟨rfl, start, m * per 3, gc, List.replicate m 0, hgc', ⟨⟨?_, K2.out, by decide, by decide, replicate_lt m, by rw [hlen]; exact f6, by omega⟩, by rw [hlen], fun i _ _ => fld_zero _ _ _, fun _ _ => rfl, f1, hlh, by omega, f3, f5, hw1, hw2⟩, K3.out⟩
  rw [hlen]; exact K1.out
end Go.Proofs.Qxb6616660a
