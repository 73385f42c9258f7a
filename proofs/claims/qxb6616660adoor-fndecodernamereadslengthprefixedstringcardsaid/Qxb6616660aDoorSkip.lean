import Derived.Test.Qxb6616660aDoorUv
namespace Go.Proofs.Qxb6616660aDoor
open Go.RowKit Go.Qm

theorem Term_inj {l : List UInt8} {t t' : Nat} (h : Term l t) (h' : Term l t') : t = t' := by
  have := (term_of h).symm.trans (term_of h')
  exact Option.some.inj this

theorem uv_good {D : Nat} {w : World} {ao : Option Addr} {len cap : Nat} {l : List UInt8} (h : Bs D w ao len cap l) (hl : len ≤ 2097152) {t : Nat} (ht : Term l t) (v : Nat) (hv : num (dg l (t + 1)) = v) :
    Calls Tryd.prog 14 #[.slice ao len cap] w fun e w' => e = .returned (.tuple #[.int .u64 (v : Int), .int .i64 ((t + 1 : Nat) : Int)]) ∧ w' = w := by
  refine (uv_any h hl).mono ?_
  rintro e w' ⟨⟨v', k, rfl, hh⟩, rfl⟩
  rcases hh with ⟨t', ht', rfl, rfl⟩ | ⟨hn, _⟩
  · obtain rfl := Term_inj ht ht'
    subst hv
    exact ⟨rfl, rfl⟩
  · exact absurd ht (hn t)
theorem uv_bad {D : Nat} {w : World} {ao : Option Addr} {len cap : Nat} {l : List UInt8} (h : Bs D w ao len cap l) (hl : len ≤ 2097152) (hn : ∀ t, ¬ Term l t) :
    Calls Tryd.prog 14 #[.slice ao len cap] w fun e w' => (∃ k : Int, k ≤ 0 ∧ -11 ≤ k ∧ e = .returned (.tuple #[.int .u64 0, .int .i64 k])) ∧ w' = w := by
  refine (uv_any h hl).mono ?_
  rintro e w' ⟨⟨v', k, rfl, hh⟩, rfl⟩
  rcases hh with ⟨t', ht', rfl, rfl⟩ | ⟨hn, rfl, h1, h2⟩
  · exact absurd ht' (hn t')
  · exact ⟨⟨k, h1, h2, rfl⟩, rfl⟩

set_option maxHeartbeats 400000 in
theorem skip_zero (b : Nat) (w : World) (da er : Value) (tot : Int) (hb : Blk w b [da, er, .int .u64 tot] 37) (T : TypeId) (v : Value) (hG : w.cell? ⟨0, 0, none⟩ = some (.iface T v)) :
    Calls Tryd.prog 15 #[.pointer (some ⟨b, 0, none⟩), .int .i64 0] w fun e w' => e = .returned (.tuple #[]) ∧ w' = w.setCell ⟨b, 1, none⟩ (.iface T v) := by
  have c1 : w.cell? ⟨b, 1, none⟩ = some er := hb.cellv rfl
  have f1 := hb.frozen 1
  go_enter Tryd.func15, Tryd.ntmps15
  go_wp2
  go_end0
  exact ⟨rfl, rfl⟩

set_option maxHeartbeats 400000 in
theorem skip_neg (b : Nat) (k : Int) (hk : k < 0) (hk' : -11 ≤ k) (w : World) (da er : Value) (tot : Int) (hb : Blk w b [da, er, .int .u64 tot] 37)  :
    Calls Tryd.prog 15 #[.pointer (some ⟨b, 0, none⟩), .int .i64 k] w fun e w' => e = .returned (.tuple #[]) ∧ ∃ T v o, w' = (w.setCell ⟨b, 1, none⟩ (.iface T v)).alloc o := by
  have c1 : w.cell? ⟨b, 1, none⟩ = some er := hb.cellv rfl
  have f1 := hb.frozen 1
  have c1' : ∀ o, (w.alloc o).cell? ⟨b, 1, none⟩ = some er := fun o => (hb.alloc o).cellv rfl
  have f1' : ∀ o, (w.alloc o).frozen? ⟨b, 1, none⟩ = false := fun o => (hb.alloc o).frozen 1
  have hlt := hb.lt
  have hk0 : (k == 0) = false := by simp; omega
  go_enter Tryd.func15, Tryd.ntmps15
  go_wp2
  go_end0
  exact ⟨rfl, _, _, _, rfl⟩

set_option maxHeartbeats 400000 in
theorem skip_pos (b : Nat) (k : Nat) (hk : 0 < k) (w : World) (ao : Option Addr) (len cap : Nat) (_hl : len ≤ 2097152) (hkl : k ≤ len) (_hlc : len ≤ cap) (er : Value) (tot : Int) (hb : Blk w b [.slice ao len cap, er, .int .u64 tot] 37)  :
    Calls Tryd.prog 15 #[.pointer (some ⟨b, 0, none⟩), .int .i64 k] w fun e w' => e = .returned (.tuple #[]) ∧ ∃ ao', Hid (ao' = (if cap = k then ao else ao.map (·.add k))) ∧ w' = w.setCell ⟨b, 0, none⟩ (.slice ao' (len - k) (cap - k)) := by
  have c1 : w.cell? ⟨b, 0, none⟩ = some (.slice ao len cap) := hb.cellv rfl
  have f1 := hb.frozen 0
  have hk0 : ((k : Int) == 0) = false := by simp; omega
  go_enter Tryd.func15, Tryd.ntmps15
  by_cases hck : cap = k
  · go_wp2
    go_end0
    refine ⟨rfl, ao, ?_, ?_⟩
    · first | exact hid (if_pos hck).symm | exact hid rfl
    · first | rfl | (subst hck; simp) | (subst hck; rfl)
  · go_wp2
    go_end0
    refine ⟨rfl, ao.map (·.add k), ?_, rfl⟩
    first | exact hid rfl | exact hid (if_neg hck).symm

set_option maxHeartbeats 400000 in
theorem uvr_good {D b : Nat} {w : World} {ao : Option Addr} {len cap : Nat} {l : List UInt8} (h : Bs D w ao len cap l) (hl : len ≤ 2097152) (hD : D ≤ b) {t : Nat} (ht : Term l t) (v : Nat) (hv : num (dg l (t + 1)) = v)
    {tot : Int} (hb : Blk w b [.slice ao len cap, .nilIface, .int .u64 tot] 37) :
    Calls Tryd.prog 13 #[.pointer (some ⟨b, 0, none⟩)] w fun e w' => e = .returned (.int .u64 (v : Int)) ∧ ∃ ao', Blk w' b [.slice ao' (len - (t + 1)) (cap - (t + 1)), .nilIface, .int .u64 tot] 37 ∧ Bs D w' ao' (len - (t + 1)) (cap - (t + 1)) (l.drop (t + 1)) ∧ Upd [b] w w' := by
  have htl : t + 1 ≤ len := by have := ht.1; have := h.hlen; omega
  have H1 := hid (uv_good h hl ht v hv)
  have H2 := hid (skip_pos b (t + 1) (by omega) w ao len cap hl htl h.hcap .nilIface tot hb)
  have c0 : w.cell? ⟨b, 0, none⟩ = some (.slice ao len cap) := hb.cellv rfl
  have c1 : w.cell? ⟨b, 1, none⟩ = some .nilIface := hb.cellv rfl
  clear hv
  go_enter Tryd.func13, Tryd.ntmps13
  go_wp2_with (first | (go_at_call 14; refine H1.out.mono ?_; rintro e w1 ⟨rfl, rfl⟩) | (go_at_call 15; refine H2.out.mono ?_; rintro e w1 ⟨rfl, ao', hao, rfl⟩))
  go_ret
  have hu : Upd [b] w1 (w1.setCell ⟨b, 0, none⟩ (.slice ao' (len - (t + 1)) (cap - (t + 1)))) := Upd.setCell _ (Or.inl (by simp)) _
  exact ⟨rfl, _, hb.set 0 _, (h.drop (t + 1) htl hao.out).upd hu (by simpa using hD), hu⟩

set_option maxHeartbeats 400000 in
theorem uvr_bad {D b : Nat} {w : World} {ao : Option Addr} {len cap : Nat} {l : List UInt8} (h : Bs D w ao len cap l) (hl : len ≤ 2097152) (hD : D ≤ b) (hn : ∀ t, ¬ Term l t)
    {tot : Int} (hb : Blk w b [.slice ao len cap, .nilIface, .int .u64 tot] 37) (T : TypeId) (v : Value) (hG : w.cell? ⟨0, 0, none⟩ = some (.iface T v)) :
    Calls Tryd.prog 13 #[.pointer (some ⟨b, 0, none⟩)] w fun e w' => e = .returned (.int .u64 0) ∧ ∃ T v, Blk w' b [.slice ao len cap, .iface T v, .int .u64 tot] 37 ∧ Bs D w' ao len cap l ∧ Upd [b] w w' := by
  have H1 := hid (uv_bad h hl hn)
  have H2 := hid (skip_zero b w (.slice ao len cap) .nilIface tot hb T v hG)
  have H3 := hid (fun k h1 h2 => skip_neg b k h1 h2 w (.slice ao len cap) .nilIface tot hb)
  have c0 : w.cell? ⟨b, 0, none⟩ = some (.slice ao len cap) := hb.cellv rfl
  have c1 : w.cell? ⟨b, 1, none⟩ = some .nilIface := hb.cellv rfl
  have HN := hid hn
  clear hn hG
  go_enter Tryd.func13, Tryd.ntmps13
  go_wp2_with (first | (go_at_call 14; refine H1.out.mono ?_; rintro e w1 ⟨⟨k, hk0, hk1, rfl⟩, rfl⟩))
  by_cases hk : k = 0
  · subst hk
    refine H2.out.mono ?_
    rintro e w2 ⟨rfl, rfl⟩
    go_wp2
    go_ret
    have hu : Upd [b] w1 (w1.setCell ⟨b, 1, none⟩ (.iface T v)) := Upd.setCell _ (Or.inl (by simp)) _
    exact ⟨rfl, _, _, hb.set 1 _, h.upd hu (by simpa using hD), hu⟩
  · refine (H3.out k (by omega) hk1).mono ?_
    rintro e w2 ⟨rfl, T', v', o, rfl⟩
    go_wp2
    go_ret
    have hu : Upd [b] w1 ((w1.setCell ⟨b, 1, none⟩ (.iface T' v')).alloc o) := (Upd.setCell _ (Or.inl (by simp)) _).trans (Upd.alloc _ _ _)
    exact ⟨rfl, _, _, (hb.set 1 _).alloc o, h.upd hu (by simpa using hD), hu⟩
end Go.Proofs.Qxb6616660aDoor
