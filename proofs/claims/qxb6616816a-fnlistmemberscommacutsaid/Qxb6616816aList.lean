import Derived.Test.Qxb6616816aEach
namespace Go.Proofs.Qxb6616816a
open Go.RowKit Go.Qm

theorem Ss.upd {D : Nat} {w w' : World} {ao : Option Addr} {len : Nat} {L : List (List UInt8)} {S : List Nat} (h : Ss D w ao len L) (hu : Upd S w w') (hS : ∀ x ∈ S, D ≤ x) : Ss D w' ao len L := by
  refine ⟨h.hlen, fun hp => ?_⟩
  obtain ⟨b, off, ha, hb, hc⟩ := h.spot hp
  refine ⟨b, off, ha, hb, fun i hi => ?_⟩
  have c1 := hc i hi
  rw [← c1]
  exact World.cell?_of_block (hu.block b (World.block_lt_of_cell? w _ c1) (fun hx => by have := hS b hx; omega))
theorem Ss.mono {D D' : Nat} {w : World} {ao : Option Addr} {len : Nat} {L : List (List UInt8)} (h : Ss D w ao len L) (hD : D ≤ D') : Ss D' w ao len L :=
  ⟨h.hlen, fun hp => by obtain ⟨b, off, ha, hb, hc⟩ := h.spot hp; exact ⟨b, off, ha, by omega, hc⟩⟩
theorem Ss.heap {D : Nat} {w w' : World} {ao : Option Addr} {len : Nat} {L : List (List UInt8)} (h : Ss D w ao len L) (e : w'.heap = w.heap) : Ss D w' ao len L :=
  ⟨h.hlen, fun hp => by obtain ⟨b, off, ha, hb, hc⟩ := h.spot hp; exact ⟨b, off, ha, hb, fun i hi => by rw [← hc i hi]; exact World.cell?_of_block (by rw [e])⟩⟩

/-- What an owned row reads as. -/
theorem Ss.of_own {w : World} {B : Nat} {v : Value} {xs : List (List UInt8)} (h : w.ownsRow B 9 1 v xs.length (S9 xs)) : ∃ ao cap, v = .slice ao xs.length cap ∧ Ss w.heap.size w ao xs.length xs := by
  rcases h.2 with ⟨rfl, h0⟩ | ⟨g, cap, cur, rfl, hg, hh, _⟩
  · exact ⟨none, 0, by rw [h0], rfl, fun hp => by omega⟩
  · refine ⟨_, cap, rfl, rfl, fun hp => ⟨g, 0, rfl, lt_of_block hh, fun i hi => ?_⟩⟩
    have := h.cellAt i (by omega)
    rw [Nat.zero_add, this, S9_get xs i hi]

set_option maxHeartbeats 1000000 in
/-- ZZlistMembers. -/
theorem list_any {w : World} {ao : Option Addr} {len cap : Nat} {L : List (List UInt8)} (h : Ss w.heap.size w ao len L) (hL : ∀ i, i < len → (L.getD i []).length ≤ 2097152) (hlen : len ≤ 2097152) (hm : (L.flatMap mem).length ≤ 2097152) (n : Nat) (hn : (L.flatMap mem).length = n) :
    Calls Try.prog 7 #[.slice ao len cap] w fun e w' => ∃ ao' cap', e = .returned (.slice ao' n cap') ∧ Ss w'.heap.size w' ao' n (L.flatMap mem) ∧ Upd [] w w' := by
  have b0 : Blk (w.alloc (.cells #[.slice none 0 0] 22)) w.heap.size [.slice none 0 0] 22 := Blk.new w [.slice none 0 0] 22
  have ho : Out (w.alloc (.cells #[.slice none 0 0] 22)) w.heap.size [] := ⟨_, b0, World.ownsRow_nil _ _ _ _⟩
  have hs : Ss w.heap.size (w.alloc (.cells #[.slice none 0 0] 22)) ao len L := h.upd (Upd.alloc [] w _) (by simp)
  have HE := hid (each_any (cap := cap) hs ho hL hlen (by simpa using hm))
  have HN := hid hn
  clear h b0 ho hs hL hm hn
  go_enter Try.func7, Try.ntmps7
  go_wp2_with (go_at_call 14; refine HE.out.mono ?_; rintro e w1 ⟨rfl, ⟨v, hb, hown⟩, hbel⟩; have c0 : w1.cell? ⟨w.heap.size, 0, none⟩ = some v := hb.cellv rfl)
  go_ret
  rw [List.nil_append] at hown
  obtain ⟨ao', cap', rfl, hss⟩ := Ss.of_own hown
  rw [HN.out] at hss ⊢
  refine ⟨ao', cap', rfl, hss, ?_⟩
  have u1 := Upd.alloc [] w (.cells #[.slice none 0 0] 22)
  exact ⟨hbel.os.trans u1.os, hbel.tape.trans u1.tape, hbel.output.trans u1.output, Nat.le_trans u1.size hbel.size, fun k hk hx => (hbel.block k hk).trans (u1.block k hk hx)⟩
end Go.Proofs.Qxb6616816a
