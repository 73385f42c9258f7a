import Derived.Test.Qxb6616816aHas
namespace Go.Proofs.Qxb6616816a
open Go.RowKit Go.Qm

set_option maxRecDepth 100000 in
set_option maxHeartbeats 1000000 in
theorem same_any {D D' : Nat} {w : World} {ao ao' : Option Addr} {len cap cap' : Nat} {L : List (List UInt8)} (h : Ss D w ao len L) (h' : Ss D' w ao' len L) (hl : len ≤ 4194304) :
    Calls Try.prog 12 #[.slice ao len cap, .slice ao' len cap'] w fun e w' => e = .returned (.bool true) ∧ ∃ q, w' = w.drewN q := by
  have HS := hid h.spot
  have HS' := hid h'.spot
  have tll : ((len : Int) != (len : Int)) = false := by simp
  clear h h'
  go_enter Try.func12, Try.ntmps12
  go_wp2
  go_loopw [5] (fun i wr => ∃ k q : Nat, k ≤ len ∧ i = .int .i64 k ∧ wr = w.drewN q) (fun i _ => len - (intOf i).toNat)
  case atStart => exact ⟨0, 0, Nat.zero_le _, rfl, rfl⟩
  case round =>
    obtain ⟨k, q, hk, rfl, hwr0⟩ := hrel
    have HWR := hid hwr0
    by_cases hlt : k < len
    · obtain ⟨b, off, ha, hb, hc⟩ := HS.out (by omega)
      cases ha
      obtain ⟨b', off', ha', hb', hc'⟩ := HS'.out (by omega)
      cases ha'
      have e3 : wr.cell? ⟨b, off + k, none⟩ = some (.string (ba (L.getD k []))) := by rw [← hc k hlt, hwr0]; rfl
      have e4 : wr.cell? ⟨b', off' + k, none⟩ = some (.string (ba (L.getD k []))) := by rw [← hc' k hlt, hwr0]; rfl
      obtain ⟨x, hx⟩ : ∃ x, L.getD k [] = x := ⟨_, rfl⟩
      rw [hx] at e3 e4
      clear hc hc' hx hwr0
      go_wp2
      go_quiet (fail)
      go_wp2
      go_roundw
      case rel => exact ⟨k + 1, _, hlt, by go_num, by rw [HWR.out]; exact drewN_add _ _ _⟩
      case measure => simp [intOf]; omega
    · clear hwr0
      go_wp2
      go_ret
      exact ⟨rfl, _, HWR.out⟩

theorem news_of {D : Nat} {w : World} {b off len : Nat} {L : List (List UInt8)} (h : Ss D w (some ⟨b, off, none⟩) len L) : ∀ j u, (S9 L)[j]? = some u → w.cell? ((⟨b, off, none⟩ : Addr).add j) = some u := by
  intro j u hj
  have hjl : j < L.length := by
    have := (List.getElem?_eq_some_iff.1 hj).1
    rwa [S9_length] at this
  rw [S9_get L j hjl] at hj
  have hl := h.hlen
  obtain ⟨b', off', ha, hb, hc⟩ := h.spot (by omega)
  cases ha
  rw [Addr.add_lit, hc j (by omega)]
  exact hj
theorem S9_one (L : List (List UInt8)) : ∀ u ∈ S9 L, u.oneCell' = true := fun v hv => by simp [S9] at hv; obtain ⟨x, _, rfl⟩ := hv; rfl
theorem S9_app2 (X Y : List (List UInt8)) : S9 X ++ S9 Y = S9 (X ++ Y) := by simp [S9]

set_option maxRecDepth 100000 in
set_option maxHeartbeats 1000000 in
theorem concat_any {w : World} {ao ao' : Option Addr} {m n cap cap' : Nat} {X Y : List (List UInt8)} (h : Ss w.heap.size w ao m X) (h' : Ss w.heap.size w ao' n Y) (hm : m ≤ 2097152) (hn : n ≤ 2097152) (hm0 : 0 < m) (hn0 : 0 < n) :
    Calls Try.prog 13 #[.slice ao m cap, .slice ao' n cap'] w fun e w' => ∃ ao2 cap2, e = .returned (.slice ao2 (m + n) cap2) ∧ Ss w'.heap.size w' ao2 (m + n) (X ++ Y) ∧ Upd [] w w' := by
  obtain ⟨i0, hi, hz0, hz1, hz2⟩ := info_parts info9
  obtain ⟨b, off, ha, hb, hc⟩ := h.spot hm0
  cases ha
  obtain ⟨b', off', ha', hb', hc'⟩ := h'.spot hn0
  cases ha'
  have hxm : (S9 X).length = m * 1 := by rw [S9_length, h.hlen]; omega
  have hyn : (S9 Y).length = n * 1 := by rw [S9_length, h'.hlen]; omega
  have HX := hid h
  have HY := hid h'
  have HXM := hid hxm
  have HYN := hid hyn
  clear hc hc' h h' hxm hyn
  obtain ⟨T, hT⟩ : ∃ T : Nat, (m : Int) + (n : Int) = (T : Int) := ⟨m + n, by simp⟩
  have wT : IntKind.i64.wrap (T : Int) = (T : Int) := IntWalk.i64_in _ (by omega)
  go_enter Try.func13, Try.ntmps13
  go_wp2_with (at_make; refine wpList_make_own _ rfl (.const (.int .i64 0)) (.tmp 10) 22 rfl w.heap.size 9 i0 (.string ByteArray.empty) 1 Try.underlying22 hi hz0 hz1 .i64 .i64 _ T rfl rfl rfl (by rw [hz2]; omega) (by unfold maxLen; omega) (Nat.le_refl _) ?_)
  intro w1 hown1 hgrow1
  have u1 : Upd [] w w1 := ⟨hgrow1.os, hgrow1.tape, hgrow1.output, hgrow1.size, fun k hk _ => hgrow1.block k hk (by simp)⟩
  have HO1 := hid hown1
  have U1 := hid u1
  have HX1 := hid (HX.out.upd u1 (by simp))
  have hsz1 := u1.size
  clear hown1 hgrow1 u1
  go_wp2_with (at_builtin; refine wpList_append_own _ rfl (.tmp 12) (.tmp 13) 22 rfl w.heap.size 9 i0 (.string ByteArray.empty) 1 16 Try.underlying22 hi hz0 hz1 hz2 rfl (by decide) _ _ _ rfl HO1.out ⟨b, off, none⟩ m cap (S9 X) rfl HXM.out (news_of HX1.out) (S9_one X) (by unfold maxLen; omega) (by omega) hsz1 ?_)
  intro v2 w2 hown2 hgrow2 hnil2
  have u2 : Upd [] w w2 := upd_grown U1.out hgrow2 (fun k e => by simp [Value.ownBlock] at e; omega)
  obtain ⟨g2, cp2, hv2⟩ : ∃ g cap, v2 = .slice (some ⟨g, 0, none⟩) m cap := by
    rcases hown2.2 with ⟨_, h0⟩ | ⟨g, cap, cur, hv, _⟩
    · omega
    · exact ⟨g, cap, hv⟩
  subst hv2
  have hb2 : w.heap.size ≤ g2 := (hown2.lt g2 rfl).1
  have HO2 := hid hown2
  have U2 := hid u2
  have HY2 := hid (HY.out.upd u2 (by simp))
  have hsz2 := u2.size
  clear hown2 hgrow2 hnil2 u2
  go_wp2_with (at_builtin; refine wpList_append_own _ rfl (.tmp 15) (.tmp 16) 22 rfl w.heap.size 9 i0 (.string ByteArray.empty) 1 16 Try.underlying22 hi hz0 hz1 hz2 rfl (by decide) _ _ _ rfl HO2.out ⟨b', off', none⟩ n cap' (S9 Y) rfl HYN.out (news_of HY2.out) (S9_one Y) (by unfold maxLen; omega) (by omega) hsz2 ?_)
  intro v3 w3 hown3 hgrow3 hnil3
  have u3 : Upd [] w w3 := upd_grown U2.out hgrow3 (fun k e => by simp [Value.ownBlock] at e; omega)
  rw [S9_app2] at hown3
  have hlen3 : (X ++ Y).length = m + n := by rw [List.length_append, HX.out.hlen, HY.out.hlen]
  rw [← hlen3] at hown3
  obtain ⟨ao3, cap3, hv3, hss⟩ := Ss.of_own hown3
  subst hv3
  rw [hlen3] at hss ⊢
  have HSS := hid hss
  have U3 := hid u3
  clear hown3 hgrow3 hnil3 u3 hss hlen3
  go_wp2
  go_ret
  exact ⟨ao3, cap3, rfl, HSS.out, U3.out⟩
end Go.Proofs.Qxb6616816a
