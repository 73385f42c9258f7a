import Derived.WalkKit
import Derived.Below
import Derived.Deep.Draws
namespace Go.Qm
open Go.RowKit

theorem hid {p : Prop} (h : p) : Hid p := h

/-- Block b holds just the cells cs, of type T, none of them frozen. -/
def Blk (w : World) (b : Nat) (cs : List Value) (T : TypeId) : Prop := w.heap[b]? = some (.cells cs.toArray T)

theorem Blk.lt {w : World} {b : Nat} {cs : List Value} {T : TypeId} (h : Blk w b cs T) : b < w.heap.size := by
  unfold Blk at h
  exact (Array.getElem?_eq_some_iff.1 h).1

theorem Blk.cell {w : World} {b : Nat} {cs : List Value} {T : TypeId} (h : Blk w b cs T) (i : Nat) : w.cell? ⟨b, i, none⟩ = cs[i]? := by
  unfold Blk at h
  simp [World.cell?, h]

theorem Blk.cellv {w : World} {b : Nat} {cs : List Value} {T : TypeId} (h : Blk w b cs T) {i : Nat} {v : Value} (hi : cs[i]? = some v) : w.cell? ⟨b, i, none⟩ = some v := (h.cell i).trans hi

theorem Blk.frozen {w : World} {b : Nat} {cs : List Value} {T : TypeId} (h : Blk w b cs T) (i : Nat) : w.frozen? ⟨b, i, none⟩ = false := by
  unfold Blk at h
  simp [World.frozen?, h]

theorem Blk.drewN {w : World} {b : Nat} {cs : List Value} {T : TypeId} (h : Blk w b cs T) (n : Nat) : Blk (w.drewN n) b cs T := h
theorem Blk.drew {w : World} {b : Nat} {cs : List Value} {T : TypeId} (h : Blk w b cs T) : Blk w.drew b cs T := h

theorem Blk.alloc {w : World} {b : Nat} {cs : List Value} {T : TypeId} (h : Blk w b cs T) (o : Obj) : Blk (w.alloc o) b cs T := by
  have := h.lt
  unfold Blk at h ⊢
  rw [Below.heap_alloc _ _ _ this]; exact h

theorem Blk.new (w : World) (cs : List Value) (T : TypeId) : Blk (w.alloc (.cells cs.toArray T)) w.heap.size cs T := by
  unfold Blk
  show (w.heap.push _)[w.heap.size]? = _
  simp

theorem Blk.new' (w : World) (cs : Array Value) (T : TypeId) : Blk (w.alloc (.cells cs T)) w.heap.size cs.toList T := by
  unfold Blk
  show (w.heap.push _)[w.heap.size]? = _
  simp

theorem Blk.set {w : World} {b : Nat} {cs : List Value} {T : TypeId} (h : Blk w b cs T) (i : Nat) (v : Value) : Blk (w.setCell ⟨b, i, none⟩ v) b (cs.set i v) T := by
  unfold Blk at h ⊢
  simp [World.setCell, Array.getElem?_modify, h]

theorem Blk.set_other {w : World} {b : Nat} {cs : List Value} {T : TypeId} (h : Blk w b cs T) {a : Addr} (v : Value) (hne : b ≠ a.block) : Blk (w.setCell a v) b cs T := by
  unfold Blk at h ⊢
  rw [Below.heap_setCell _ _ _ _ hne]; exact h

/-- w' is w but for the blocks of S and for new blocks. -/
structure Upd (S : List Nat) (w w' : World) : Prop where
  os : w'.os = w.os
  tape : w'.tape = w.tape
  output : w'.output = w.output
  size : w.heap.size ≤ w'.heap.size
  block : ∀ k, k < w.heap.size → k ∉ S → w'.heap[k]? = w.heap[k]?

theorem Upd.refl (S : List Nat) (w : World) : Upd S w w := ⟨rfl, rfl, rfl, Nat.le_refl _, fun _ _ _ => rfl⟩
theorem Upd.trans {S : List Nat} {a b c : World} (h : Upd S a b) (k : Upd S b c) : Upd S a c :=
  ⟨k.os.trans h.os, k.tape.trans h.tape, k.output.trans h.output, Nat.le_trans h.size k.size, fun i hi hs => (k.block i (Nat.lt_of_lt_of_le hi h.size) hs).trans (h.block i hi hs)⟩
/-- The second step may also write blocks that the first one made. -/
theorem Upd.trans' {S S' : List Nat} {a b c : World} (h : Upd S a b) (k : Upd S' b c) (hS : ∀ x ∈ S', x ∈ S ∨ a.heap.size ≤ x) : Upd S a c :=
  ⟨k.os.trans h.os, k.tape.trans h.tape, k.output.trans h.output, Nat.le_trans h.size k.size, fun i hi hs => (k.block i (Nat.lt_of_lt_of_le hi h.size) (fun hx => (hS i hx).elim hs (fun hh => by omega))).trans (h.block i hi hs)⟩
theorem Upd.mono {S S' : List Nat} {w w' : World} (h : Upd S w w') (hS : ∀ x ∈ S, x ∈ S' ∨ w.heap.size ≤ x) : Upd S' w w' :=
  ⟨h.os, h.tape, h.output, h.size, fun k hk hs => h.block k hk (fun hx => (hS k hx).elim hs (fun hh => by omega))⟩
theorem Upd.drewN (S : List Nat) (w : World) (n : Nat) : Upd S w (w.drewN n) := ⟨rfl, rfl, rfl, Nat.le_refl _, fun _ _ _ => rfl⟩
theorem Upd.drew (S : List Nat) (w : World) : Upd S w w.drew := ⟨rfl, rfl, rfl, Nat.le_refl _, fun _ _ _ => rfl⟩
theorem Upd.alloc (S : List Nat) (w : World) (o : Obj) : Upd S w (w.alloc o) :=
  ⟨rfl, rfl, rfl, by simp, fun k hk _ => Below.heap_alloc _ _ _ hk⟩
theorem Upd.setCell {S : List Nat} (w : World) {a : Addr} (ha : a.block ∈ S ∨ w.heap.size ≤ a.block) (v : Value) : Upd S w (w.setCell a v) :=
  ⟨rfl, rfl, rfl, by simp [World.setCell], fun k hk hs => Below.heap_setCell _ _ _ _ (fun e => ha.elim (fun h => hs (e ▸ h)) (fun h => by omega))⟩
theorem Upd.below {S : List Nat} {w w' : World} {B : Nat} (h : Upd S w w') (hB : B ≤ w.heap.size) (hS : ∀ x ∈ S, B ≤ x) : Below B w w' :=
  ⟨h.os, h.tape, h.output, h.size, fun k hk => h.block k (by omega) (fun hx => by have := hS k hx; omega)⟩
theorem Upd.blk {S : List Nat} {w w' : World} (h : Upd S w w') {b : Nat} {cs : List Value} {T : TypeId} (hb : Blk w b cs T) (hn : b ∉ S) : Blk w' b cs T := by
  have hlt := hb.lt
  unfold Blk at hb ⊢
  rw [h.block b hlt hn]; exact hb
theorem Upd.grown {w w' : World} {row : Option Nat} (hg : w.grownBy w' row) (S : List Nat) (hS : ∀ k, row = some k → k ∈ S ∨ w.heap.size ≤ k) : Upd S w w' :=
  ⟨hg.os, hg.tape, hg.output, hg.size, fun k hk hs => hg.block k hk (fun e => (hS k e.symm).elim hs (fun hh => by omega))⟩

/-- The numbers ws as cells of 64 bits. -/
def W64 (ws : List Nat) : List Value := ws.map fun (x : Nat) => Value.int .u64 (x : Int)
theorem W64_length (ws : List Nat) : (W64 ws).length = ws.length := by simp [W64]
theorem W64_get (ws : List Nat) (i : Nat) (h : i < ws.length) : (W64 ws)[i]? = some (.int .u64 ((ws.getD i 0 : Nat) : Int)) := by
  simp [W64, List.getD, h]
theorem W64_set (ws : List Nat) (i x : Nat) : (W64 ws).set i (.int .u64 (x : Int)) = W64 (ws.set i x) := by
  simp [W64, List.map_set]
theorem W64_replicate (n : Nat) : W64 (List.replicate n 0) = List.replicate n (Value.int .u64 0) := by simp [W64]


/-- n cells that hold z. (Behind a name: the walk leaves it as it stands.) -/
def Zr (z : Value) (n : Nat) : Array Value := (List.replicate n z).toArray
theorem Zr_toList (z : Value) (n : Nat) : (Zr z n).toList = List.replicate n z := by simp [Zr]
theorem Zr_u64 (n : Nat) : Zr (.int .u64 0) n = (W64 (List.replicate n 0)).toArray := by rw [W64_replicate]; rfl

/-- 'make([]T, n)', n A VARIABLE, the world behind it written out. -/
theorem wpList_make_zero {P : Program} (w : World) {ops : Array Oper} {rest : List Oper} {o : Oper} {a : Act} {Q : Exit → Act → World → Prop}
    (hg : o.guard = none) (l c : Operand) (t : TypeId) (hop : o.op = Op.makeSlice t l c)
    (e : TypeId) (i : TypeInfo) (z : Value) (h1 : P.underlying t = some (.slice e)) (h2 : P.info? e = some i) (h3 : i.zero = some z) (h4 : i.size = 1) (hz : z.cells = #[z])
    (kl kc : IntKind) (L C : Int) (n : Nat) (hl : a.eval l = .int kl L) (hc : a.eval c = .int kc C) (hL : L = (n : Int)) (hC : C = (n : Int)) (b2 : i.bytes * n ≤ 281474976710656) (b3 : n ≤ 4611686018427387904)
    (hK : wpList P ops Q rest (a.put o.dst (.slice (some ⟨w.heap.size, 0, none⟩) n n)) (w.alloc (.cells (Zr z n) e))) :
    wpList P ops Q (o :: rest) a w := by
  refine wpList_plain hg fun K hK' => ?_
  have b2' : (i.bytes : Int) * (n : Int) ≤ 281474976710656 := by
    have h : ((i.bytes * n : Nat) : Int) ≤ 281474976710656 := by omega
    rwa [Int.natCast_mul] at h
  have hrun := run_make (P := P) w t e i z h1 h2 h3 kl kc n n (by omega) (by omega) b2' (by omega)
  have hzr : madeCells z.cells (((n : Nat) : Int).toNat * i.size) = Zr z n := by
    rw [hz, h4, Nat.mul_one, Int.toNat_natCast]
    apply Array.toList_inj.1
    rw [toList_madeCells_one, Zr_toList]
  rw [hzr, Int.toNat_natCast] at hrun
  subst hL
  subst hC
  unfold Oper.wp
  simp [execOp, hop, hl, hc, hrun, Result.andThen]
  exact hK' _ _ hK

end Go.Qm
