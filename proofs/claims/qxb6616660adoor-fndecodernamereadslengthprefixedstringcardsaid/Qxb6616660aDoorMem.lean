import Derived.WalkKit
import Derived.Below
import Derived.Deep.Draws
import Derived.Laws.AppendOwn
namespace Go.Qm
open Go.RowKit

theorem hid {p : Prop} (h : p) : Hid p := h

/-- Block b holds just the cells cs, of type T, none of them frozen. -/
def Blk (w : World) (b : Nat) (cs : List Value) (T : TypeId) : Prop := w.heap[b]? = some (.cells cs.toArray T)

theorem Blk.lt {w : World} {b : Nat} {cs : List Value} {T : TypeId} (h : Blk w b cs T) : b < w.heap.size := by
  unfold Blk at h
  exact (Array.getElem?_eq_some_iff.1 h).1

theorem Blk.cell {w : World} {b : Nat} {cs : List Value} {T : TypeId} (h : Blk w b cs T) (i : Nat) : w.cell? ⟨b, i, none⟩ = cs[i]? := by
  unfold Blk at h
  simp [World.cell?, h]

theorem Blk.cellv {w : World} {b : Nat} {cs : List Value} {T : TypeId} (h : Blk w b cs T) {i : Nat} {v : Value} (hi : cs[i]? = some v) : w.cell? ⟨b, i, none⟩ = some v := (h.cell i).trans hi

theorem Blk.frozen {w : World} {b : Nat} {cs : List Value} {T : TypeId} (h : Blk w b cs T) (i : Nat) : w.frozen? ⟨b, i, none⟩ = false := by
  unfold Blk at h
  simp [World.frozen?, h]

theorem Blk.drewN {w : World} {b : Nat} {cs : List Value} {T : TypeId} (h : Blk w b cs T) (n : Nat) : Blk (w.drewN n) b cs T := h
theorem Blk.drew {w : World} {b : Nat} {cs : List Value} {T : TypeId} (h : Blk w b cs T) : Blk w.drew b cs T := h

theorem Blk.alloc {w : World} {b : Nat} {cs : List Value} {T : TypeId} (h : Blk w b cs T) (o : Obj) : Blk (w.alloc o) b cs T := by
  have := h.lt
  unfold Blk at h ⊢
  rw [Below.heap_alloc _ _ _ this]; exact h

theorem Blk.new (w : World) (cs : List Value) (T : TypeId) : Blk (w.alloc (.cells cs.toArray T)) w.heap.size cs T := by
  unfold Blk
  show (w.heap.push _)[w.heap.size]? = _
  simp

theorem Blk.new' (w : World) (cs : Array Value) (T : TypeId) : Blk (w.alloc (.cells cs T)) w.heap.size cs.toList T := by
  unfold Blk
  show (w.heap.push _)[w.heap.size]? = _
  simp

theorem Blk.set {w : World} {b : Nat} {cs : List Value} {T : TypeId} (h : Blk w b cs T) (i : Nat) (v : Value) : Blk (w.setCell ⟨b, i, none⟩ v) b (cs.set i v) T := by
  unfold Blk at h ⊢
  simp [World.setCell, Array.getElem?_modify, h]

theorem Blk.set_other {w : World} {b : Nat} {cs : List Value} {T : TypeId} (h : Blk w b cs T) {a : Addr} (v : Value) (hne : b ≠ a.block) : Blk (w.setCell a v) b cs T := by
  unfold Blk at h ⊢
  rw [Below.heap_setCell _ _ _ _ hne]; exact h

/-- w' is w but for the blocks of S and for new blocks. -/
structure Upd (S : List Nat) (w w' : World) : Prop where
  os : w'.os = w.os
  tape : w'.tape = w.tape
  output : w'.output = w.output
  size : w.heap.size ≤ w'.heap.size
  block : ∀ k, k < w.heap.size → k ∉ S → w'.heap[k]? = w.heap[k]?

theorem Upd.refl (S : List Nat) (w : World) : Upd S w w := ⟨rfl, rfl, rfl, Nat.le_refl _, fun _ _ _ => rfl⟩
theorem Upd.trans {S : List Nat} {a b c : World} (h : Upd S a b) (k : Upd S b c) : Upd S a c :=
  ⟨k.os.trans h.os, k.tape.trans h.tape, k.output.trans h.output, Nat.le_trans h.size k.size, fun i hi hs => (k.block i (Nat.lt_of_lt_of_le hi h.size) hs).trans (h.block i hi hs)⟩
/-- The second step may also write blocks that the first one made. -/
theorem Upd.trans' {S S' : List Nat} {a b c : World} (h : Upd S a b) (k : Upd S' b c) (hS : ∀ x ∈ S', x ∈ S ∨ a.heap.size ≤ x) : Upd S a c :=
  ⟨k.os.trans h.os, k.tape.trans h.tape, k.output.trans h.output, Nat.le_trans h.size k.size, fun i hi hs => (k.block i (Nat.lt_of_lt_of_le hi h.size) (fun hx => (hS i hx).elim hs (fun hh => by omega))).trans (h.block i hi hs)⟩
theorem Upd.mono {S S' : List Nat} {w w' : World} (h : Upd S w w') (hS : ∀ x ∈ S, x ∈ S' ∨ w.heap.size ≤ x) : Upd S' w w' :=
  ⟨h.os, h.tape, h.output, h.size, fun k hk hs => h.block k hk (fun hx => (hS k hx).elim hs (fun hh => by omega))⟩
theorem Upd.drewN (S : List Nat) (w : World) (n : Nat) : Upd S w (w.drewN n) := ⟨rfl, rfl, rfl, Nat.le_refl _, fun _ _ _ => rfl⟩
theorem Upd.drew (S : List Nat) (w : World) : Upd S w w.drew := ⟨rfl, rfl, rfl, Nat.le_refl _, fun _ _ _ => rfl⟩
theorem Upd.alloc (S : List Nat) (w : World) (o : Obj) : Upd S w (w.alloc o) :=
  ⟨rfl, rfl, rfl, by simp, fun k hk _ => Below.heap_alloc _ _ _ hk⟩
theorem Upd.setCell {S : List Nat} (w : World) {a : Addr} (ha : a.block ∈ S ∨ w.heap.size ≤ a.block) (v : Value) : Upd S w (w.setCell a v) :=
  ⟨rfl, rfl, rfl, by simp [World.setCell], fun k hk hs => Below.heap_setCell _ _ _ _ (fun e => ha.elim (fun h => hs (e ▸ h)) (fun h => by omega))⟩
theorem Upd.below {S : List Nat} {w w' : World} {B : Nat} (h : Upd S w w') (hB : B ≤ w.heap.size) (hS : ∀ x ∈ S, B ≤ x) : Below B w w' :=
  ⟨h.os, h.tape, h.output, h.size, fun k hk => h.block k (by omega) (fun hx => by have := hS k hx; omega)⟩
theorem Upd.blk {S : List Nat} {w w' : World} (h : Upd S w w') {b : Nat} {cs : List Value} {T : TypeId} (hb : Blk w b cs T) (hn : b ∉ S) : Blk w' b cs T := by
  have hlt := hb.lt
  unfold Blk at hb ⊢
  rw [h.block b hlt hn]; exact hb
theorem Upd.grown {w w' : World} {row : Option Nat} (hg : w.grownBy w' row) (S : List Nat) (hS : ∀ k, row = some k → k ∈ S ∨ w.heap.size ≤ k) : Upd S w w' :=
  ⟨hg.os, hg.tape, hg.output, hg.size, fun k hk hs => hg.block k hk (fun e => (hS k e.symm).elim hs (fun hh => by omega))⟩

/-- The bytes l as cells. -/
def B8 (l : List UInt8) : List Value := l.map fun (x : UInt8) => Value.int .u8 (x.toNat : Int)
theorem B8_length (l : List UInt8) : (B8 l).length = l.length := by simp [B8]
theorem B8_get (l : List UInt8) (i : Nat) (h : i < l.length) : (B8 l)[i]? = some (.int .u8 ((l.getD i 0).toNat : Int)) := by
  simp [B8, List.getD, h]
theorem B8_set (l : List UInt8) (i : Nat) (x : UInt8) : (B8 l).set i (.int .u8 (x.toNat : Int)) = B8 (l.set i x) := by
  simp [B8, List.map_set]
theorem B8_replicate (n : Nat) : B8 (List.replicate n 0) = List.replicate n (Value.int .u8 0) := by simp [B8]

/-- WHAT IS KNOWN OF A SLICE OF BYTES: it reads l; where it holds a byte its array lies in a block below D. -/
structure Bs (D : Nat) (w : World) (ao : Option Addr) (len cap : Nat) (l : List UInt8) : Prop where
  hlen : l.length = len
  hcap : len ≤ cap
  hnil : ao = none → cap = 0
  spot : 0 < len → ∃ b off, ao = some ⟨b, off, none⟩ ∧ b < D ∧ ∀ i, i < len → w.cell? ⟨b, off + i, none⟩ = some (.int .u8 ((l.getD i 0).toNat : Int))

section
variable {D : Nat} {w : World} {ao : Option Addr} {len cap : Nat} {l : List UInt8}
theorem Bs.upd {w' : World} {S : List Nat} (h : Bs D w ao len cap l) (hu : Upd S w w') (hS : ∀ x ∈ S, D ≤ x) : Bs D w' ao len cap l :=
  ⟨h.hlen, h.hcap, h.hnil, fun hp => by
    obtain ⟨b, off, e, hb, hc⟩ := h.spot hp
    refine ⟨b, off, e, hb, fun i hi => ?_⟩
    have hlt := World.block_lt_of_cell? w _ (hc i hi)
    rw [← hc i hi]
    exact World.cell?_of_block (hu.block b hlt (fun hx => by have := hS b hx; omega))⟩
theorem Bs.mono {D' : Nat} (h : Bs D w ao len cap l) (hD : D ≤ D') : Bs D' w ao len cap l :=
  ⟨h.hlen, h.hcap, h.hnil, fun hp => by
    obtain ⟨b, off, e, hb, hc⟩ := h.spot hp
    exact ⟨b, off, e, by omega, hc⟩⟩
theorem Bs.top (h : Bs D w ao len cap l) : Bs w.heap.size w ao len cap l :=
  ⟨h.hlen, h.hcap, h.hnil, fun hp => by
    obtain ⟨b, off, e, hb, hc⟩ := h.spot hp
    exact ⟨b, off, e, World.block_lt_of_cell? w _ (hc 0 hp), hc⟩⟩
theorem Bs.empty {ao' : Option Addr} {c : Nat} (hn : ao' = none → c = 0) : Bs D w ao' 0 c [] := ⟨rfl, Nat.zero_le _, hn, fun h => absurd h (Nat.lt_irrefl 0)⟩
/-- The cut from k on, whatever address it bears where nothing is left. -/
theorem Bs.drop (h : Bs D w ao len cap l) (k : Nat) (hk : k ≤ len) {ao' : Option Addr} (he : ao' = (if cap = k then ao else ao.map (·.add k))) : Bs D w ao' (len - k) (cap - k) (l.drop k) := by
  have hc := h.hcap
  refine ⟨by simp [h.hlen], by omega, ?_, fun hp => ?_⟩
  · intro hn
    subst he
    by_cases hck : cap = k
    · omega
    · rw [if_neg hck] at hn
      cases hao : ao with
      | none => have := h.hnil hao; omega
      | some a => rw [hao] at hn; simp at hn
  · obtain ⟨b, off, e, hb, hcell⟩ := h.spot (by omega)
    subst he
    rw [if_neg (by omega), e]
    refine ⟨b, off + k, by simp [Addr.add], hb, fun i hi => ?_⟩
    have := hcell (k + i) (by omega)
    rw [Nat.add_assoc, this]
    simp [List.getD, List.getElem?_drop]
/-- The cut up to k. -/
theorem Bs.take (h : Bs D w ao len cap l) (k : Nat) (hk : k ≤ len) : Bs D w ao k cap (l.take k) := by
  have hc := h.hcap
  refine ⟨by simp [h.hlen, hk], by omega, h.hnil, fun hp => ?_⟩
  obtain ⟨b, off, e, hb, hcell⟩ := h.spot (by omega)
  refine ⟨b, off, e, hb, fun i hi => ?_⟩
  rw [hcell i (by omega)]
  simp [List.getD, hi]
end

/-- n cells that hold z. (Behind a name: the walk leaves it as it stands.) -/
def Zr (z : Value) (n : Nat) : Array Value := (List.replicate n z).toArray
theorem Zr_toList (z : Value) (n : Nat) : (Zr z n).toList = List.replicate n z := by simp [Zr]
theorem Zr_u8 (n : Nat) : Zr (.int .u8 0) n = (B8 (List.replicate n 0)).toArray := by rw [B8_replicate]; rfl

/-- 'make([]T, n)', n A VARIABLE, the world behind it written out. -/
theorem wpList_make_zero {P : Program} (w : World) {ops : Array Oper} {rest : List Oper} {o : Oper} {a : Act} {Q : Exit → Act → World → Prop}
    (hg : o.guard = none) (l c : Operand) (t : TypeId) (hop : o.op = Op.makeSlice t l c)
    (e : TypeId) (i : TypeInfo) (z : Value) (h1 : P.underlying t = some (.slice e)) (h2 : P.info? e = some i) (h3 : i.zero = some z) (h4 : i.size = 1) (hz : z.cells = #[z])
    (kl kc : IntKind) (L C : Int) (n : Nat) (hl : a.eval l = .int kl L) (hc : a.eval c = .int kc C) (hL : L = (n : Int)) (hC : C = (n : Int)) (b2 : i.bytes * n ≤ 281474976710656) (b3 : n ≤ 4611686018427387904)
    (hK : wpList P ops Q rest (a.put o.dst (.slice (some ⟨w.heap.size, 0, none⟩) n n)) (w.alloc (.cells (Zr z n) e))) :
    wpList P ops Q (o :: rest) a w := by
  refine wpList_plain hg fun K hK' => ?_
  have b2' : (i.bytes : Int) * (n : Int) ≤ 281474976710656 := by
    have h : ((i.bytes * n : Nat) : Int) ≤ 281474976710656 := by omega
    rwa [Int.natCast_mul] at h
  have hrun := run_make (P := P) w t e i z h1 h2 h3 kl kc n n (by omega) (by omega) b2' (by omega)
  have hzr : madeCells z.cells (((n : Nat) : Int).toNat * i.size) = Zr z n := by
    rw [hz, h4, Nat.mul_one, Int.toNat_natCast]
    apply Array.toList_inj.1
    rw [toList_madeCells_one, Zr_toList]
  rw [hzr, Int.toNat_natCast] at hrun
  subst hL
  subst hC
  unfold Oper.wp
  simp [execOp, hop, hl, hc, hrun, Result.andThen]
  exact hK' _ _ hK

end Go.Qm
