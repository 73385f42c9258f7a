import Derived.Test.Qxb6616660aDoorSkip
import Derived.Laws.BytesString
import Derived.Laws.IdiomStrings
namespace Go.Proofs.Qxb6616660aDoor
open Go.RowKit Go.Qm

theorem conv_bs {D : Nat} {w : World} {ao : Option Addr} {len cap : Nat} {l : List UInt8} (h : Bs D w ao len cap l) :
    (convert 22 9 (.slice ao len cap)).run Tryd.prog w = .ok (.string ⟨l.toArray⟩) w := by
  by_cases h0 : len = 0
  · subst h0
    have hl : l = [] := List.eq_nil_of_length_eq_zero h.hlen
    subst hl
    rw [run_convert_bytes_string w 22 9 5 _ 0 cap Tryd.underlying22 Tryd.underlying5 Tryd.underlying9]
    cases ao <;> simp [Conv.bytesToString, loadCells]
    all_goals rfl
  · obtain ⟨b, off, rfl, hb, hc⟩ := h.spot (by omega)
    have hl := h.hlen
    subst hl
    refine run_convert_bytes_back w 22 9 5 ⟨b, off, none⟩ cap l Tryd.underlying22 Tryd.underlying5 Tryd.underlying9 fun j hj => ?_
    have := hc j hj
    rw [Addr.add_lit]
    simpa [List.getD, hj] using this

set_option maxHeartbeats 400000 in
theorem name_err {b : Nat} {w : World} {da : Value} {tot : Int} {T : TypeId} {v : Value} (hb : Blk w b [da, .iface T v, .int .u64 tot] 37) :
    Calls Tryd.prog 12 #[.pointer (some ⟨b, 0, none⟩)] w fun e w' => e = .returned (.string ⟨#[]⟩) ∧ w' = w := by
  have c1 : w.cell? ⟨b, 1, none⟩ = some (.iface T v) := hb.cellv rfl
  go_enter Tryd.func12, Tryd.ntmps12
  go_wp2
  go_ret
  exact ⟨rfl, rfl⟩

set_option maxHeartbeats 400000 in
theorem name_bad {D b : Nat} {w : World} {ao : Option Addr} {len cap : Nat} {l : List UInt8} (h : Bs D w ao len cap l) (hl : len ≤ 2097152) (hD : D ≤ b) (hn : ∀ t, ¬ Term l t)
    {tot : Int} (hb : Blk w b [.slice ao len cap, .nilIface, .int .u64 tot] 37) (T : TypeId) (v : Value) (hG : w.cell? ⟨0, 0, none⟩ = some (.iface T v)) :
    Calls Tryd.prog 12 #[.pointer (some ⟨b, 0, none⟩)] w fun e w' => e = .returned (.string ⟨#[]⟩) ∧ ∃ T v, Blk w' b [.slice ao len cap, .iface T v, .int .u64 tot] 37 ∧ Bs D w' ao len cap l ∧ Upd [b] w w' := by
  have H1 := hid (uvr_bad h hl hD hn hb T v hG)
  clear hn hG
  go_enter Tryd.func12, Tryd.ntmps12
  go_wp2_with fail
  refine H1.out.mono ?_
  rintro e w1 ⟨rfl, T', v', hb1, hs1, hu1⟩
  have c1 : w1.cell? ⟨b, 1, none⟩ = some (.iface T' v') := hb1.cellv rfl
  go_wp2
  go_ret
  exact ⟨rfl, T', v', hb1, hs1, hu1⟩

set_option maxHeartbeats 400000 in
theorem name_short {D b : Nat} {w : World} {ao : Option Addr} {len cap : Nat} {l : List UInt8} (h : Bs D w ao len cap l) (hl : len ≤ 2097152) (hD : D ≤ b) (h0b : 0 ≠ b) {t : Nat} (ht : Term l t) (v : Nat) (hv : num (dg l (t + 1)) = v) (hs : len - (t + 1) < v)
    {tot : Int} (hb : Blk w b [.slice ao len cap, .nilIface, .int .u64 tot] 37) (T : TypeId) (x : Value) (hG : w.cell? ⟨0, 0, none⟩ = some (.iface T x)) (hG0 : 0 < w.heap.size) :
    Calls Tryd.prog 12 #[.pointer (some ⟨b, 0, none⟩)] w fun e w' => e = .returned (.string ⟨#[]⟩) ∧ ∃ ao', Blk w' b [.slice ao' (len - (t + 1)) (cap - (t + 1)), .iface T x, .int .u64 tot] 37 ∧ Bs D w' ao' (len - (t + 1)) (cap - (t + 1)) (l.drop (t + 1)) ∧ Upd [b] w w' := by
  have H1 := hid (uvr_good h hl hD ht v hv hb)
  have HV := hid hv
  have hvl : v < 18446744073709551616 := by rw [← hv]; exact Term_num ht
  obtain ⟨n, hn⟩ : ∃ n, len - (t + 1) = n := ⟨_, rfl⟩
  obtain ⟨c, hc⟩ : ∃ c, cap - (t + 1) = c := ⟨_, rfl⟩
  rw [hn, hc] at H1
  rw [hn, hc]
  rw [hn] at hs
  have hn2 : n ≤ 2097152 := by omega
  clear hv hn hc
  go_enter Tryd.func12, Tryd.ntmps12
  go_wp2_with fail
  refine H1.out.mono ?_
  rintro e w1 ⟨rfl, ao', hb1, hs1, hu1⟩
  have c0 : w1.cell? ⟨b, 0, none⟩ = some (.slice ao' n c) := hb1.cellv rfl
  have c1 : w1.cell? ⟨b, 1, none⟩ = some .nilIface := hb1.cellv rfl
  have f1 := hb1.frozen 1
  have g1 : w1.cell? ⟨0, 0, none⟩ = some (.iface T x) := by rw [← hG]; exact World.cell?_of_block (hu1.block 0 hG0 (by simpa using h0b))
  clear hG
  go_wp2
  go_ret
  have hu : Upd [b] w1 (w1.setCell ⟨b, 1, none⟩ (.iface T x)) := Upd.setCell _ (Or.inl (by simp)) _
  exact ⟨rfl, ao', hb1.set 1 _, hs1.upd hu (by simpa using hD), hu1.trans hu⟩

set_option maxHeartbeats 400000 in
theorem name_ok {D b : Nat} {w : World} {ao : Option Addr} {len cap : Nat} {l : List UInt8} (h : Bs D w ao len cap l) (hl : len ≤ 2097152) (hD : D ≤ b) {t : Nat} (ht : Term l t) (v : Nat) (hv : num (dg l (t + 1)) = v) (hs : v ≤ len - (t + 1))
    {tot : Int} (hb : Blk w b [.slice ao len cap, .nilIface, .int .u64 tot] 37) :
    Calls Tryd.prog 12 #[.pointer (some ⟨b, 0, none⟩)] w fun e w' => e = .returned (.string ⟨((l.drop (t + 1)).take v).toArray⟩) ∧ ∃ ao', Blk w' b [.slice ao' (len - (t + 1) - v) (cap - (t + 1) - v), .nilIface, .int .u64 tot] 37 ∧ Bs D w' ao' (len - (t + 1) - v) (cap - (t + 1) - v) ((l.drop (t + 1)).drop v) ∧ Upd [b] w w' := by
  have H1 := hid (uvr_good h hl hD ht v hv hb)
  have HV := hid hv
  obtain ⟨n, hn⟩ : ∃ n, len - (t + 1) = n := ⟨_, rfl⟩
  obtain ⟨c, hc⟩ : ∃ c, cap - (t + 1) = c := ⟨_, rfl⟩
  obtain ⟨r, hr⟩ : ∃ r, l.drop (t + 1) = r := ⟨_, rfl⟩
  rw [hn, hc, hr] at H1
  rw [hn, hc, hr]
  rw [hn] at hs
  have hn2 : n ≤ 2097152 := by omega
  clear hv hn hc hr
  go_enter Tryd.func12, Tryd.ntmps12
  go_wp2_with fail
  refine H1.out.mono ?_
  rintro e w1 ⟨rfl, ao', hb1, hs1, hu1⟩
  have c0 : w1.cell? ⟨b, 0, none⟩ = some (.slice ao' n c) := hb1.cellv rfl
  have c1 : w1.cell? ⟨b, 1, none⟩ = some .nilIface := hb1.cellv rfl
  have f0 := hb1.frozen 0
  have hnc := hs1.hcap
  by_cases hck : c = v
  · subst hck
    have hconv := conv_bs (hs1.take c hs)
    have hbs := hid (hs1.drop c hs (ao' := ao') (by simp))
    go_wp2
    go_ret
    have hz : n - c = 0 := by omega
    have hu : Upd [b] w1 (w1.setCell ⟨b, 0, none⟩ (.slice ao' 0 0)) := Upd.setCell _ (Or.inl (by simp)) _
    have hb2 := hb1.set 0 (.slice ao' 0 0)
    have hs2 := hbs.out.upd hu (by simpa using hD)
    rw [Nat.sub_self, hz] at hs2
    rw [hz, Nat.sub_self]
    exact ⟨rfl, ao', hb2, hs2, hu1.trans hu⟩
  · have hconv := conv_bs (hs1.take v hs)
    have hbs := hid (hs1.drop v hs (ao' := ao'.map (·.add v)) (by rw [if_neg hck]))
    go_wp2
    go_ret
    have hu : Upd [b] w1 (w1.setCell ⟨b, 0, none⟩ (.slice (ao'.map (·.add v)) (n - v) (c - v))) := Upd.setCell _ (Or.inl (by simp)) _
    exact ⟨rfl, _, hb1.set 0 _, hbs.out.upd hu (by simpa using hD), hu1.trans hu⟩

/-- An error as the decoder keeps it: nil where ok, else not nil. -/
def ErrIs (ok : Bool) (er : Value) : Prop := (ok = true ∧ er = .nilIface) ∨ (ok = false ∧ ∃ T v, er = .iface T v)

theorem name_any {D b : Nat} {w : World} {ao : Option Addr} {len cap : Nat} {l : List UInt8} (h : Bs D w ao len cap l) (hl : len ≤ 2097152) (hD : D ≤ b) (h0b : 0 ≠ b)
    {tot : Int} (hb : Blk w b [.slice ao len cap, .nilIface, .int .u64 tot] 37) (T : TypeId) (x : Value) (hG : w.cell? ⟨0, 0, none⟩ = some (.iface T x)) :
    Calls Tryd.prog 12 #[.pointer (some ⟨b, 0, none⟩)] w fun e w' => e = .returned (.string ⟨(nm l).2.1.toArray⟩) ∧ ∃ ao' len' cap' er, Blk w' b [.slice ao' len' cap', er, .int .u64 tot] 37 ∧ Bs D w' ao' len' cap' (nm l).2.2 ∧ ErrIs (nm l).1 er ∧ len' ≤ len ∧ Upd [b] w w' := by
  have hG0 : 0 < w.heap.size := World.block_lt_of_cell? w _ hG
  cases ht : term l with
  | none =>
    rw [nm_none ht]
    refine (name_bad h hl hD (fun t h => by rw [term_of h] at ht; cases ht) hb T x hG).mono ?_
    rintro e w' ⟨rfl, T', v', h1, h2, h3⟩
    exact ⟨rfl, _, _, _, _, h1, h2, Or.inr ⟨rfl, _, _, rfl⟩, Nat.le_refl _, h3⟩
  | some t =>
    have hT := Term_of ht
    have hlen := h.hlen
    rcases Nat.lt_or_ge (l.length - (t + 1)) (num (dg l (t + 1))) with hv | hv
    · rw [nm_short ht hv]
      refine (name_short h hl hD h0b hT _ rfl (by omega) hb T x hG hG0).mono ?_
      rintro e w' ⟨rfl, ao', h1, h2, h3⟩
      exact ⟨rfl, _, _, _, _, h1, h2, Or.inr ⟨rfl, _, _, rfl⟩, by omega, h3⟩
    · rw [nm_ok ht hv]
      refine (name_ok h hl hD hT _ rfl (by omega) hb).mono ?_
      rintro e w' ⟨rfl, ao', h1, h2, h3⟩
      exact ⟨rfl, _, _, _, _, h1, h2, Or.inl ⟨rfl, rfl⟩, by omega, h3⟩

set_option maxHeartbeats 400000 in
theorem zname_any {D : Nat} {w : World} {ao : Option Addr} {len cap : Nat} {l : List UInt8} (h : Bs D w ao len cap l) (hl : len ≤ 2097152) (hD : D ≤ w.heap.size)
    (T : TypeId) (x : Value) (hG : w.cell? ⟨0, 0, none⟩ = some (.iface T x)) :
    Calls Tryd.prog 7 #[.slice ao len cap] w fun e w' => ∃ ao' len' cap' er, e = .returned (.tuple #[.string ⟨(nm l).2.1.toArray⟩, .slice ao' len' cap', er]) ∧ Bs D w' ao' len' cap' (nm l).2.2 ∧ ErrIs (nm l).1 er ∧ len' ≤ len ∧ Upd [] w w' := by
  have hG0 : 0 < w.heap.size := World.block_lt_of_cell? w _ hG
  have hb := Blk.new w [.slice ao len cap, .nilIface, .int .u64 0] 37
  have hs := h.upd (Upd.alloc [] w (.cells #[.slice ao len cap, .nilIface, .int .u64 0] 37)) (by simp)
  have g : (w.alloc (.cells #[.slice ao len cap, .nilIface, .int .u64 0] 37)).cell? ⟨0, 0, none⟩ = some (.iface T x) := by
    rw [← hG]; exact World.cell?_of_block (Below.heap_alloc _ _ _ hG0)
  have H1 := hid (name_any hs hl hD (by omega) hb T x g)
  obtain ⟨nme, hnme⟩ : ∃ y, (⟨(nm l).2.1.toArray⟩ : ByteArray) = y := ⟨_, rfl⟩
  rw [hnme] at H1
  rw [hnme]
  clear hnme g hs hb hG
  go_enter Tryd.func7, Tryd.ntmps7
  go_wp2_with fail
  refine H1.out.mono ?_
  rintro e w1 ⟨rfl, ao', len', cap', er, hb1, hs1, her, hlen, hu1⟩
  have c0 : w1.cell? ⟨w.heap.size, 0, none⟩ = some (.slice ao' len' cap') := hb1.cellv rfl
  have c1 : w1.cell? ⟨w.heap.size, 1, none⟩ = some er := hb1.cellv rfl
  go_wp2
  go_quiet (fail)
  go_wp2
  go_ret3
  refine ⟨ao', len', cap', er, rfl, hs1.upd (Upd.drewN [] _ _) (by simp), her, hlen, ?_⟩
  exact ((Upd.alloc [] w _).trans' hu1 (by simp)).trans (Upd.drewN _ _ _)
end Go.Proofs.Qxb6616660aDoor
