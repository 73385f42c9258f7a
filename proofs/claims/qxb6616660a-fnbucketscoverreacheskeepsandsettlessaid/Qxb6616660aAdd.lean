import Derived.Test.Qxb6616660aWiden
namespace Go.Proofs.Qxb6616660a
open Go.RowKit Go.Qm

theorem set_lt {ws : List Nat} {k X : Nat} (h : ∀ x ∈ ws, x < 18446744073709551616) (hX : X < 18446744073709551616) : ∀ x ∈ ws.set k X, x < 18446744073709551616 := by
  intro x hx
  rcases List.mem_or_eq_of_mem_set hx with h1 | h1
  · exact h x h1
  · rw [h1]; exact hX

/-- One word stored anew. -/
theorem Cn_store {w : World} {b : Nat} {pre post : List Value} {T : TypeId} {g : Nat} {ws : List Nat} {bl : Nat} (h : Cn w b pre post T g ws bl) (k X : Nat) (hX : X < 18446744073709551616) :
    Cn (w.setCell ⟨g, k, none⟩ (.int .u64 (X : Int))) b pre post T g (ws.set k X) bl ∧ Upd [b, g] w (w.setCell ⟨g, k, none⟩ (.int .u64 (X : Int))) := by
  refine ⟨⟨?_, ?_, h.h3, h.h6, set_lt h.lt hX, by rw [List.length_set]; exact h.len, h.ne⟩, Upd.setCell _ (Or.inl (by simp)) _⟩
  · rw [List.length_set]; exact h.blk.set_other _ h.ne
  · have := h.row.set k (.int .u64 (X : Int))
    rw [W64_set] at this; exact this

theorem wrap_add {X n s X' : Nat} (hX' : X' < 18446744073709551616) (he : X + n * 2 ^ s = X') : IntKind.u64.wrap ((X : Int) + IntKind.u64.wrap ((n : Int) * 2 ^ s)) = (X' : Int) := by
  have e : ((n : Int) * 2 ^ s) = ((n * 2 ^ s : Nat) : Int) := by simp
  have hp := Nat.two_pow_pos s
  have e4 : IntKind.u64.wrap ((n * 2 ^ s : Nat) : Int) = ((n * 2 ^ s : Nat) : Int) := IntWalk.u64_in _ (by omega)
  rw [e, e4, ← Int.natCast_add, he]
  exact IntWalk.u64_in _ (by omega)

theorem fld_le_full (bl : Nat) (ws : List Nat) (j : Nat) : fld bl ws j ≤ full bl := by
  have : fld bl ws j < 2 ^ wid bl := field_lt _ _ _
  unfold full; omega
theorem full_pow (bl : Nat) : full bl + 1 = 2 ^ wid bl := by
  have := Nat.two_pow_pos (wid bl); unfold full; omega

/-- What 'add' leaves. -/
def Added (w w' : World) (b : Nat) (pre post : List Value) (T : TypeId) (g : Nat) (ws : List Nat) (bl j n L : Nat) : Prop :=
  ∃ g' ws' bl', Cn w' b pre post T g' ws' bl' ∧ ws'.length * per bl' = L ∧ (∀ j', j' < L → fld bl' ws' j' = if j' = j then fld bl ws j + n else fld bl ws j') ∧ Upd [b, g] w w' ∧ (g' = g ∨ w.heap.size ≤ g')

theorem Added_drewN {w w' : World} {b : Nat} {pre post : List Value} {T : TypeId} {g : Nat} {ws : List Nat} {bl j n L : Nat} (h : Added w w' b pre post T g ws bl j n L) (q : Nat) : Added w (w'.drewN q) b pre post T g ws bl j n L := by
  obtain ⟨g', ws', bl', h1, h2, h3, h4, h5⟩ := h
  exact ⟨g', ws', bl', h1.drewN q, h2, h3, h4.trans (Upd.drewN _ _ _), h5⟩

set_option maxHeartbeats 1000000 in
theorem add_held {w : World} {b : Nat} {pre post : List Value} {T : TypeId} {g : Nat} {ws : List Nat} {bl : Nat} (h : Cn w b pre post T g ws bl) (o : Nat) (ho : pre.length = o) (j n L V : Nat) (hL : ws.length * per bl = L) (hj : j < L)
    (hV : fld bl ws j = V) (hn : V + n ≤ full bl) :
    Calls Try.prog 27 #[.pointer (some ⟨b, o, none⟩), .int .i64 (j : Int), .int .u64 (n : Int)] w
      fun e w' => e = .returned (.int .u64 (V : Int)) ∧ Added w w' b pre post T g ws bl j n L := by
  have hk : j / per bl < ws.length := by rw [Nat.div_lt_iff_lt_mul (per_pos bl)]; omega
  have hs : j % per bl * wid bl < 64 := by have := shift_le (j := j) h.h6; have := wid_pos bl; omega
  have hlen := h.len
  have hp := per_le h.h3 h.h6
  have hj2 : j ≤ 16777216 := by
    have : ws.length * per bl ≤ 2097152 * 8 := Nat.mul_le_mul hlen hp
    omega
  have hgrow : fld bl ws j + n < 2 ^ wid bl := by have := full_pow bl; omega
  have hX' := grow_lt64 h.h6 (getD_lt h.lt (j / per bl)) hgrow
  have FIN : Hid (Added w (w.setCell ⟨g, j / per bl, none⟩ (.int .u64 ((ws.getD (j / per bl) 0 + n * 2 ^ (j % per bl * wid bl) : Nat) : Int))) b pre post T g ws bl j n L) := by
    obtain ⟨q1, q2⟩ := Cn_store h (j / per bl) _ hX'
    exact hid ⟨g, _, bl, q1, by rw [List.length_set]; exact hL, fun j' _ => fld_grow hk hgrow j', q2, Or.inl rfl⟩
  have HA := hid fun wx e => at_any (Cn_heap (w' := wx) h e) o ho j (by omega)
  have HP := hid fun wx hc => place_any b o j bl (j / per bl) (j % per bl * wid bl) wx h.h3 h.h6 hj2 hc rfl rfl
  rw [hV] at HA
  have c0 : w.cell? ⟨b, o, none⟩ = some (.slice (some ⟨g, 0, none⟩) ws.length ws.length) := by rw [← ho]; exact h.c0
  have c1 : w.cell? ⟨b, o + 1, none⟩ = some (.int .u64 ((full bl : Nat) : Int)) := by rw [← ho]; exact h.c1
  have c2 : w.cell? ⟨b, o + 2, none⟩ = some (.int .u8 (bl : Int)) := by rw [← ho]; exact h.c2
  have hx := h.word hk
  have hf := h.row.frozen (j / per bl)
  have hfl := full_lt h.h3 h.h6
  have r1 := wrap_add hX' rfl
  generalize hkk : j / per bl = k at *
  generalize hss : j % per bl * wid bl = s at *
  generalize hXX : ws.getD k 0 + n * 2 ^ s = X' at *
  generalize hX0 : ws.getD k 0 = X at *
  generalize hFU : full bl = FU at *
  clear hkk hss hXX hX0 hFU hL hV hgrow h
  go_enter Try.func27, Try.ntmps27
  go_wp2_with (first | (go_at_call 26; refine (HA.out _ (by rfl)).mono ?_; rintro e w1 ⟨rfl, q1, rfl⟩) | (go_at_call 31; refine (HP.out _ (by simpa using c2)).mono ?_; rintro e w1 ⟨rfl, rfl⟩))
  go_ret
  exact ⟨rfl, Added_drewN FIN.out q1⟩

set_option maxHeartbeats 1000000 in
theorem add_wide {w : World} {b : Nat} {pre post : List Value} {T : TypeId} {g : Nat} {ws : List Nat} {bl : Nat} (h : Cn w b pre post T g ws bl) (o : Nat) (ho : pre.length = o) (j n L V : Nat) (hL : ws.length * per bl = L) (hj : j < L) (hLm : L ≤ 2097152)
    (hV : fld bl ws j = V) (hn : full bl < V + n) (hvn : V + n < 18446744073709551616) :
    Calls Try.prog 27 #[.pointer (some ⟨b, o, none⟩), .int .i64 (j : Int), .int .u64 (n : Int)] w
      fun e w' => e = .returned (.int .u64 (V : Int)) ∧ Added w w' b pre post T g ws bl j n L := by
  obtain ⟨f1, f2, f3, f4, f5, f6⟩ := blF_facts hvn
  have hbl : bl < blF (V + n) := f6 bl (by have := full_pow bl; omega)
  have hVf := fld_le_full bl ws j
  rw [hV] at hVf
  have HA := hid fun wx e => at_any (Cn_heap (w' := wx) h e) o ho j (by omega)
  rw [hV] at HA
  have HB := hid fun wx => blfor_any (V + n) wx hvn
  have HW := hid fun wx e => widen_any (Cn_heap (w' := wx) h e) o ho (blF (V + n)) hbl f4 L hL (by omega) hLm
  have c1 : w.cell? ⟨b, o + 1, none⟩ = some (.int .u64 ((full bl : Nat) : Int)) := by rw [← ho]; exact h.c1
  have hfl := full_lt h.h3 h.h6
  have hVn : ((V + n : Nat) : Int) = (V : Int) + (n : Int) := Int.natCast_add V n
  rw [hVn] at HB
  generalize hFU : full bl = FU at *
  have HFU := hid hFU
  obtain ⟨B, hB⟩ : ∃ B, blF (V + n) = B := ⟨_, rfl⟩
  rw [hB] at HB HW hbl f3 f4 f5
  have HC := hid h
  have HO := hid ho
  have HLL := hid hL
  have HV := hid hV
  clear hFU hB h ho hL hV f1 f2 f6 hVn
  go_enter Try.func27, Try.ntmps27
  go_wp2_with (first | (go_at_call 26; refine (HA.out _ (by rfl)).mono ?_; rintro e w1 ⟨rfl, q1, rfl⟩) | (go_at_call 33; refine (HB.out _).mono ?_; rintro e w1 ⟨rfl, rfl⟩))
  refine (HW.out _ (by rfl)).mono ?_
  rintro e w2 ⟨rfl, gc, m, hm, hgc, hcn, hu⟩
  have hwl : (widened bl ws B m).length = m := widened_len _ _ _ _
  have hflds : ∀ j', j' < L → fld B (widened bl ws B m) j' = fld bl ws j' := fun j' hj' => fld_widened (by omega) ws m j' (by omega)
  generalize widened bl ws B m = ws1 at *
  have hL1 : ws1.length * per B = L := by rw [hwl, hm]
  have hk : j / per B < ws1.length := by rw [Nat.div_lt_iff_lt_mul (per_pos B)]; omega
  have hs : j % per B * wid B < 64 := by have := shift_le (j := j) hcn.h6; have := wid_pos B; omega
  have hlen := hcn.len
  have hj2 : j ≤ 16777216 := by omega
  have hVj : fld B ws1 j = V := (hflds j hj).trans HV.out
  have hgrow : fld B ws1 j + n < 2 ^ wid B := by rw [hVj]; exact f5
  have hX' := grow_lt64 hcn.h6 (getD_lt hcn.lt (j / per B)) hgrow
  have FIN : Hid (Added w (w2.setCell ⟨gc, j / per B, none⟩ (.int .u64 ((ws1.getD (j / per B) 0 + n * 2 ^ (j % per B * wid B) : Nat) : Int))) b pre post T g ws bl j n L) := by
    obtain ⟨q1', q2'⟩ := Cn_store hcn (j / per B) _ hX'
    refine hid ⟨gc, _, B, q1', by rw [List.length_set]; exact hL1, fun j' hj' => ?_, ?_, Or.inr hgc⟩
    · rw [fld_grow hk hgrow j', hVj, HV.out]
      by_cases e : j' = j
      · rw [if_pos e, if_pos e]
      · rw [if_neg e, if_neg e]; exact hflds j' hj'
    · refine Upd.trans' (S' := [b, gc]) ?_ q2' ?_
      · exact (Upd.drewN _ _ q1).trans (hu.mono (by simp))
      · intro y hy
        simp at hy
        rcases hy with rfl | rfl
        · exact Or.inl (by simp)
        · exact Or.inr hgc
  have HP := hid fun wx hc => place_any b o j B (j / per B) (j % per B * wid B) wx hcn.h3 hcn.h6 hj2 hc rfl rfl
  have d0 : w2.cell? ⟨b, o, none⟩ = some (.slice (some ⟨gc, 0, none⟩) ws1.length ws1.length) := by rw [← HO.out]; exact hcn.c0
  have d2 : w2.cell? ⟨b, o + 2, none⟩ = some (.int .u8 (B : Int)) := by rw [← HO.out]; exact hcn.c2
  have hx := hcn.word hk
  have hf := hcn.row.frozen (j / per B)
  have r1 := wrap_add hX' rfl
  generalize hkk : j / per B = k at *
  generalize hss : j % per B * wid B = s at *
  generalize hXX : ws1.getD k 0 + n * 2 ^ s = X' at *
  generalize hX0 : ws1.getD k 0 = X at *
  clear hkk hss hXX hX0 hgrow hcn hflds hu hVj hm hwl hL1
  go_wp2_with (go_at_call 31; refine (HP.out _ d2).mono ?_; rintro e w3 ⟨rfl, rfl⟩)
  go_ret
  exact ⟨rfl, FIN.out⟩

theorem add_any {w : World} {b : Nat} {pre post : List Value} {T : TypeId} {g : Nat} {ws : List Nat} {bl : Nat} (h : Cn w b pre post T g ws bl) (o : Nat) (ho : pre.length = o) (j n L V : Nat) (hL : ws.length * per bl = L) (hj : j < L) (hLm : L ≤ 2097152)
    (hV : fld bl ws j = V) (hvn : V + n < 18446744073709551616) :
    Calls Try.prog 27 #[.pointer (some ⟨b, o, none⟩), .int .i64 (j : Int), .int .u64 (n : Int)] w
      fun e w' => e = .returned (.int .u64 (V : Int)) ∧ Added w w' b pre post T g ws bl j n L := by
  by_cases hn : V + n ≤ full bl
  · exact add_held h o ho j n L V hL hj hV hn
  · exact add_wide h o ho j n L V hL hj hLm hV (by omega) hvn

set_option maxHeartbeats 400000 in
theorem zadd_any {w : World} {b g bl : Nat} {ws : List Nat} (h : Cn w b [] [] 50 g ws bl) (j n L V : Nat) (hL : ws.length * per bl = L) (hj : j < L) (hLm : L ≤ 2097152) (hV : fld bl ws j = V) (hvn : V + n < 18446744073709551616) :
    Calls Try.prog 10 #[.pointer (some ⟨b, 0, none⟩), .int .i64 (j : Int), .int .u64 (n : Int)] w fun e w' => e = .returned (.int .u64 (V : Int)) ∧ Added w w' b [] [] 50 g ws bl j n L := by
  have HM' := hid (add_any h 0 rfl j n L V hL hj hLm hV hvn)
  clear hL hj hV h
  go_enter Try.func10, Try.ntmps10
  go_wp2_with (go_at_call 27; refine HM'.out.mono ?_; rintro e w1 ⟨rfl, hadd⟩)
  go_ret
  exact ⟨rfl, hadd⟩
end Go.Proofs.Qxb6616660a
