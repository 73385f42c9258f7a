import Derived.Test.Qxb6616660aCnt
namespace Go.Proofs.Qxb6616660a
open Go.RowKit Go.Qm

theorem replicate_lt (m : Nat) : ∀ x ∈ List.replicate m 0, x < 18446744073709551616 := by
  intro x hx; rw [(List.mem_replicate.1 hx).2]; decide

/-- The room made for n counts, in words. -/
theorem words_le {n bl m : Nat} (h3 : 3 ≤ bl) (h6 : bl ≤ 6) (hm : (n + per bl - 1) / per bl = m) : m ≤ n := by
  subst hm
  rcases bl_cases h3 h6 with rfl | rfl | rfl | rfl <;> simp [per] <;> omega

set_option maxHeartbeats 400000 in
theorem zmake_any (n m bl : Nat) (w : World) (h3 : 3 ≤ bl) (h6 : bl ≤ 6) (hn : n ≤ 2097152) (hm : (n + per bl - 1) / per bl = m) :
    Calls Try.prog 7 #[.int .i64 n, .int .u8 bl] w fun e w' => ∃ b g, w.heap.size ≤ b ∧ w.heap.size ≤ g ∧ e = .returned (.pointer (some ⟨b, 0, none⟩)) ∧ Cn w' b [] [] 50 g (List.replicate m 0) bl ∧ Upd [] w w' := by
  have HM' := hid fun wx => make_any n m bl wx h3 h6 (by omega) hm
  have hmn := words_le h3 h6 hm
  clear hm
  go_enter Try.func7, Try.ntmps7
  go_wp2_with (go_at_call 24; refine (HM'.out _).mono ?_; rintro e w1 ⟨g, hg, rfl, hrow, hupd⟩)
  go_ret
  refine ⟨w1.heap.size, g, hupd.size, hg, rfl, ⟨?_, hrow.alloc _, h3, h6, replicate_lt m, by simp; omega, ?_⟩, hupd.trans (Upd.alloc _ _ _)⟩
  · have := Blk.new' w1 #[.slice (some ⟨g, 0, none⟩) m m, .int .u64 ((full bl : Nat) : Int), .int .u8 (bl : Int), .int .u8 ((6 - bl : Nat) : Int)] 50
    simpa [cn4] using this
  · have := hrow.lt; omega

set_option maxHeartbeats 400000 in
theorem zlen_any {w : World} {b g bl : Nat} {ws : List Nat} (h : Cn w b [] [] 50 g ws bl) (m : Nat) (hm : ws.length * per bl = m) :
    Calls Try.prog 8 #[.pointer (some ⟨b, 0, none⟩)] w fun e w' => e = .returned (.int .i64 (m : Int)) ∧ ∃ k, w' = w.drewN k := by
  have HM' := hid (len_cn h 0 rfl m hm)
  clear hm
  go_enter Try.func8, Try.ntmps8
  go_wp2_with (go_at_call 25; refine HM'.out.mono ?_; rintro e w1 ⟨rfl, k, rfl⟩)
  go_ret
  exact ⟨rfl, k, rfl⟩

set_option maxHeartbeats 400000 in
theorem zat_any {w : World} {b g bl : Nat} {ws : List Nat} (h : Cn w b [] [] 50 g ws bl) (j : Nat) (hj : j < ws.length * per bl) (v : Nat) (hv : fld bl ws j = v) :
    Calls Try.prog 9 #[.pointer (some ⟨b, 0, none⟩), .int .i64 (j : Int)] w fun e w' => e = .returned (.int .u64 (v : Int)) ∧ ∃ k, w' = w.drewN k := by
  have HM' := hid (at_any h 0 rfl j hj)
  rw [hv] at HM'
  clear hj hv
  go_enter Try.func9, Try.ntmps9
  go_wp2_with (go_at_call 26; refine HM'.out.mono ?_; rintro e w1 ⟨rfl, k, rfl⟩)
  go_ret
  exact ⟨rfl, k, rfl⟩

theorem fld_zero (bl m j : Nat) : fld bl (List.replicate m 0) j = 0 := by
  unfold fld
  have : (List.replicate m 0).getD (j / per bl) 0 = 0 := by
    simp only [List.getD, List.getElem?_replicate]
    split <;> rfl
  rw [this]; simp

end Go.Proofs.Qxb6616660a
