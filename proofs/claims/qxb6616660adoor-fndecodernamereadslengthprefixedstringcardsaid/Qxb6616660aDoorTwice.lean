import Derived.Test.Qxb6616660aDoorName
namespace Go.Proofs.Qxb6616660aDoor
open Go.RowKit Go.Qm

/-- What the second read on one decoder gives. -/
def nm2 (l : List UInt8) : Bool × List UInt8 × List UInt8 := if (nm l).1 then nm (nm l).2.2 else (false, [], (nm l).2.2)

set_option maxHeartbeats 400000 in
theorem ztwice_any {D : Nat} {w : World} {ao : Option Addr} {len cap : Nat} {l : List UInt8} (h : Bs D w ao len cap l) (hl : len ≤ 2097152) (hD : D ≤ w.heap.size)
    (T : TypeId) (x : Value) (hG : w.cell? ⟨0, 0, none⟩ = some (.iface T x)) :
    Calls Tryd.prog 11 #[.slice ao len cap] w fun e w' => ∃ ao1 len1 cap1 ao' len' cap' er, e = .returned (.tuple #[.string ⟨(nm l).2.1.toArray⟩, .slice ao1 len1 cap1, .string ⟨(nm2 l).2.1.toArray⟩, .slice ao' len' cap', er]) ∧ Bs D w' ao1 len1 cap1 (nm l).2.2 ∧ Bs D w' ao' len' cap' (nm2 l).2.2 ∧ ErrIs (nm2 l).1 er ∧ len1 ≤ len ∧ len' ≤ len ∧ Upd [] w w' := by
  have hG0 : 0 < w.heap.size := World.block_lt_of_cell? w _ hG
  have hb := Blk.new w [.slice ao len cap, .nilIface, .int .u64 0] 37
  have hs := h.upd (Upd.alloc [] w (.cells #[.slice ao len cap, .nilIface, .int .u64 0] 37)) (by simp)
  have g : (w.alloc (.cells #[.slice ao len cap, .nilIface, .int .u64 0] 37)).cell? ⟨0, 0, none⟩ = some (.iface T x) := by
    rw [← hG]; exact World.cell?_of_block (Below.heap_alloc _ _ _ hG0)
  have H1 := hid (name_any hs hl hD (by omega) hb T x g)
  obtain ⟨nme, hnme⟩ : ∃ y, (⟨(nm l).2.1.toArray⟩ : ByteArray) = y := ⟨_, rfl⟩
  rw [hnme] at H1
  rw [hnme]
  have G := hid hG
  clear hnme g hs hb hG
  unfold nm2
  cases hok : (nm l).1 with
  | false =>
    simp only [hok] at H1
    simp only [Bool.false_eq_true, if_false]
    clear hok
    go_enter Tryd.func11, Tryd.ntmps11
    go_wp2_with fail
    refine H1.out.mono ?_
    rintro e w1 ⟨rfl, ao', len', cap', er, hb1, hs1, her, hlen, hu1⟩
    rcases her with ⟨h, _⟩ | ⟨_, T', v', rfl⟩
    · cases h
    have c0 : w1.cell? ⟨w.heap.size, 0, none⟩ = some (.slice ao' len' cap') := hb1.cellv rfl
    have c1 : w1.cell? ⟨w.heap.size, 1, none⟩ = some (.iface T' v') := hb1.cellv rfl
    go_wp2_with (go_at_call 12; refine (name_err hb1).mono ?_; rintro e w2 ⟨rfl, rfl⟩)
    go_quiet (fail)
    go_wp2
    refine bodyPost_ret (v := .tuple #[.string nme, .slice ao' len' cap', .string ⟨#[]⟩, .slice ao' len' cap', .iface T' v']) (by simp [results, Tryd.results11, go_sem]) rfl ?_
    refine ⟨ao', len', cap', ao', len', cap', _, rfl, hs1.upd (Upd.drewN [] _ _) (by simp), hs1.upd (Upd.drewN [] _ _) (by simp), Or.inr ⟨rfl, _, _, rfl⟩, hlen, hlen, ?_⟩
    exact ((Upd.alloc [] w _).trans' hu1 (by simp)).trans (Upd.drewN _ _ _)
  | true =>
    simp only [hok] at H1
    simp only [if_true]
    clear hok
    obtain ⟨r, hr⟩ : ∃ r, (nm l).2.2 = r := ⟨_, rfl⟩
    rw [hr] at H1
    rw [hr]
    clear hr
    obtain ⟨nme2, hnme2⟩ : ∃ y, (⟨(nm r).2.1.toArray⟩ : ByteArray) = y := ⟨_, rfl⟩
    rw [hnme2]
    have HN2 := hid hnme2
    clear hnme2
    go_enter Tryd.func11, Tryd.ntmps11
    go_wp2_with fail
    refine H1.out.mono ?_
    rintro e w1 ⟨rfl, ao1, len1, cap1, er, hb1, hs1, her, hlen1, hu1⟩
    rcases her with ⟨_, rfl⟩ | ⟨h, _⟩
    rotate_left
    · cases h
    have c0 : w1.cell? ⟨w.heap.size, 0, none⟩ = some (.slice ao1 len1 cap1) := hb1.cellv rfl
    have g1 : Hid (w1.cell? ⟨0, 0, none⟩ = some (.iface T x)) := by
      rw [← G.out]
      have hu2 := (Upd.alloc [] w (.cells #[.slice ao len cap, .nilIface, .int .u64 0] 37)).trans' hu1 (by simp)
      exact hid (World.cell?_of_block (hu2.block 0 hG0 (by simp)))
    have H2 := hid (name_any hs1 (by omega) hD (by omega) hb1 T x g1.out)
    rw [HN2.out] at H2
    go_wp2_with (go_at_call 12; refine H2.out.mono ?_; rintro e w2 ⟨rfl, ao', len', cap', er, hb2, hs2, her, hlen, hu2⟩; have d0 : w2.cell? ⟨w.heap.size, 0, none⟩ = some (.slice ao' len' cap') := hb2.cellv rfl; have d1 : w2.cell? ⟨w.heap.size, 1, none⟩ = some er := hb2.cellv rfl)
    go_quiet (fail)
    go_wp2
    refine bodyPost_ret (v := .tuple #[.string nme, .slice ao1 len1 cap1, .string nme2, .slice ao' len' cap', er]) (by simp [results, Tryd.results11, go_sem]) rfl ?_
    refine ⟨ao1, len1, cap1, ao', len', cap', _, rfl, (hs1.upd hu2 (by simpa using hD)).upd (Upd.drewN [] _ _) (by simp), hs2.upd (Upd.drewN [] _ _) (by simp), her, hlen1, by omega, ?_⟩
    exact (((Upd.alloc [] w _).trans' hu1 (by simp)).trans' hu2 (by simp)).trans (Upd.drewN _ _ _)
end Go.Proofs.Qxb6616660aDoor
