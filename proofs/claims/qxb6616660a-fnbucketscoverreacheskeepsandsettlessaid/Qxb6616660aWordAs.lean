import Derived.Test.Qxb6616660aFadd
namespace Go.Proofs.Qxb6616660a
open Go.RowKit Go.Qm

theorem as_field {bl bl' j q : Nat} (h3 : 3 ≤ bl) (hbl : bl < bl') (h6 : bl' ≤ 6) (hj : j % per bl' = 0) (hq : q < per bl') (ws : List Nat) :
    fld bl ws (j + q) = ws.getD (j / per bl) 0 / 2 ^ (j % per bl * wid bl) / 2 ^ (q * wid bl) % 2 ^ wid bl := by
  have e : (j + q) / per bl = j / per bl ∧ (j + q) % per bl = j % per bl + q := by
    rcases bl_cases h3 (by omega : bl ≤ 6) with rfl | rfl | rfl | rfl <;> rcases bl_cases (by omega : 3 ≤ bl') h6 with rfl | rfl | rfl | rfl <;> simp [per] at * <;> omega
  rw [fld, e.1, e.2, Nat.div_div_eq_div_mul, ← Nat.pow_add, Nat.add_mul]

theorem wa_step {bl bl' X s q sa sb Y F : Nat} (h3 : 3 ≤ bl) (hbl : bl < bl') (h6 : bl' ≤ 6) (hq : q < per bl') (hsb : q * wid bl' = sb)
    (hX : X < 18446744073709551616) (hY : Y < 2 ^ sb) (hF : X / 2 ^ s / 2 ^ sa % 2 ^ wid bl = F) :
    bits .or .u64 (Y : Int) (IntKind.u64.wrap (bits .and .u64 ((X : Int) / 2 ^ s / 2 ^ sa) ((full bl : Nat) : Int) * 2 ^ sb)) = ((Y + F * 2 ^ sb : Nat) : Int) := by
  have e : ((X : Int) / 2 ^ s / 2 ^ sa) = ((X / 2 ^ s / 2 ^ sa : Nat) : Int) := by simp
  have hlt : X / 2 ^ s / 2 ^ sa < 18446744073709551616 := Nat.lt_of_le_of_lt (Nat.le_trans (Nat.div_le_self _ _) (Nat.div_le_self _ _)) hX
  rw [e, u64_and_nat _ _ hlt (full_lt h3 (by omega))]
  have e2 : X / 2 ^ s / 2 ^ sa &&& full bl = F := by rw [← hF]; exact Nat.and_two_pow_sub_one_eq_mod _ _
  rw [e2]
  have hFl : F < 2 ^ wid bl' := by
    have h1 : F < 2 ^ wid bl := by rw [← hF]; exact Nat.mod_lt _ (Nat.two_pow_pos _)
    have h2 : 2 ^ wid bl ≤ 2 ^ wid bl' := Nat.pow_le_pow_right (by decide) (Nat.pow_le_pow_right (by decide) (by omega))
    omega
  have hp := per_wid (bl := bl') h6
  have hsum : sb + wid bl' ≤ 64 := by
    have : (q + 1) * wid bl' ≤ per bl' * wid bl' := Nat.mul_le_mul_right _ hq
    rw [Nat.add_mul, Nat.one_mul] at this; omega
  have hle : F * 2 ^ sb + 2 ^ sb ≤ 18446744073709551616 := by
    have h1 : (F + 1) * 2 ^ sb ≤ 2 ^ wid bl' * 2 ^ sb := Nat.mul_le_mul_right _ hFl
    rw [Nat.add_mul, Nat.one_mul, ← Nat.pow_add] at h1
    have h2 : 2 ^ (wid bl' + sb) ≤ 2 ^ 64 := Nat.pow_le_pow_right (by decide) (by omega)
    omega
  have hpp := Nat.two_pow_pos sb
  have e3 : ((F : Int) * 2 ^ sb) = ((F * 2 ^ sb : Nat) : Int) := by simp
  have e4 : IntKind.u64.wrap ((F * 2 ^ sb : Nat) : Int) = ((F * 2 ^ sb : Nat) : Int) := IntWalk.u64_in _ (by omega)
  rw [e3, e4, u64_or_nat _ _ (by omega) (by omega), Nat.or_comm, nat_join sb _ _ (Nat.mul_mod_left _ _) hY, Nat.add_comm]

theorem shr64 {bl : Nat} (h3 : 3 ≤ bl) (h6 : bl ≤ 6) : (64 : Int) / 2 ^ bl = ((per bl : Nat) : Int) := by
  rcases bl_cases h3 h6 with rfl | rfl | rfl | rfl <;> decide
theorem shl_q {bl q s : Nat} (h6 : bl ≤ 6) (hq : q ≤ 8) (hs : q * wid bl = s) : IntKind.u64.wrap ((q : Int) * 2 ^ bl) = (s : Int) := by
  have e : ((q : Int) * 2 ^ bl) = ((q * 2 ^ bl : Nat) : Int) := by simp
  have h : 2 ^ bl ≤ 2 ^ 6 := Nat.pow_le_pow_right (by decide) h6
  have h2 : q * 2 ^ bl ≤ 8 * 2 ^ 6 := Nat.mul_le_mul hq h
  rw [e, IntWalk.u64_in _ (by omega), ← hs]; rfl

set_option maxHeartbeats 1000000 in
theorem wordAs_any {w : World} {b : Nat} {pre post : List Value} {T : TypeId} {g : Nat} {ws : List Nat} {bl : Nat} (h : Cn w b pre post T g ws bl) (o : Nat) (ho : pre.length = o) (bl' : Nat) (hbl : bl < bl') (h6 : bl' ≤ 6)
    (j : Nat) (hj : j % per bl' = 0) (hjl : j + per bl' ≤ ws.length * per bl) :
    Calls Try.prog 47 #[.pointer (some ⟨b, o, none⟩), .int .i64 (j : Int), .int .u8 (bl' : Int)] w fun e w' => e = .returned (.int .u64 ((wAs bl ws bl' j : Nat) : Int)) ∧ ∃ q, w' = w.drewN q := by
  subst ho
  have h3 := h.h3
  have hlen := h.len
  have hp := per_le h.h3 h.h6
  have hp' := per_pos bl'
  have hp8 := per_le (show 3 ≤ bl' by omega) h6
  have hk : j / per bl < ws.length := by rw [Nat.div_lt_iff_lt_mul (per_pos bl)]; omega
  have hj2 : j ≤ 16777216 := by
    have : ws.length * per bl ≤ 2097152 * 8 := Nat.mul_le_mul hlen hp
    omega
  have hs : j % per bl * wid bl < 64 := by have := shift_le (j := j) h.h6; have := wid_pos bl; omega
  have c0 := h.c0; have c1 := h.c1; have c2 := h.c2
  have hx := h.word hk
  have hXlt := getD_lt h.lt (j / per bl)
  have HP := hid fun wx hc => place_any b pre.length j bl (j / per bl) (j % per bl * wid bl) wx h.h3 h.h6 hj2 hc rfl rfl
  have HF := hid fun q hq => as_field (q := q) h3 hbl h6 hj hq ws
  have hr1 := shr64 (show 3 ≤ bl' by omega) h6
  generalize hkk : j / per bl = k at *
  generalize hss : j % per bl * wid bl = s at *
  generalize hXX : ws.getD k 0 = X at *
  generalize hpp : per bl' = p' at *
  have HW : Hid (wAs bl ws bl' j = pack (wid bl') (fun q => fld bl ws (j + q)) p') := by rw [← hpp]; exact hid rfl
  have HPP := hid hpp
  clear hj hjl hkk hss hXX hpp hp h
  go_enter Try.func47, Try.ntmps47
  go_wp2_with (go_at_call 31; refine (HP.out _ c2).mono ?_; rintro e w' ⟨rfl, rfl⟩)
  go_loopw [10, 29] (fun y i wr => ∃ q : Nat, q ≤ p' ∧ i = .int .u64 q ∧ y = .int .u64 ((pack (wid bl') (fun q => fld bl ws (j + q)) q : Nat) : Int) ∧ ∃ z, wr = w'.drewN z) (fun _ i _ => p' - (intOf i).toNat)
  case atStart => exact ⟨0, by omega, rfl, rfl, 0, rfl⟩
  case round =>
    obtain ⟨q, hq, rfl, rfl, z, rfl⟩ := hrel
    by_cases hlt : q < p'
    · obtain ⟨sa, hsa⟩ : ∃ sa, q * wid bl = sa := ⟨_, rfl⟩
      obtain ⟨sb, hsb⟩ : ∃ sb, q * wid bl' = sb := ⟨_, rfl⟩
      obtain ⟨Y, hY⟩ : ∃ Y, pack (wid bl') (fun q => fld bl ws (j + q)) q = Y := ⟨_, rfl⟩
      obtain ⟨Y', hY'⟩ : ∃ Y, pack (wid bl') (fun q => fld bl ws (j + q)) (q + 1) = Y := ⟨_, rfl⟩
      have hYY : Y + X / 2 ^ s / 2 ^ sa % 2 ^ wid bl * 2 ^ sb = Y' := by
        rw [← hY', pack, hY, HF.out q hlt, hsa, hsb]
      have hYlt : Y < 2 ^ sb := by rw [← hY, ← hsb]; exact pack_lt (fun q => fld_lt_wider (by omega) ws _) q
      have r4 := wa_step (sa := sa) (s := s) h3 hbl h6 (show q < per bl' by rw [HPP.out]; exact hlt) hsb hXlt hYlt rfl
      rw [hYY] at r4
      have r2 := shl_q (bl := bl) (q := q) (by omega) (by omega) hsa
      have r3 := shl_q (bl := bl') (q := q) h6 (by omega) hsb
      have hsb64 : sb ≤ 64 := by
        have h1 : (q + 1) * wid bl' ≤ per bl' * wid bl' := Nat.mul_le_mul_right _ (by rw [HPP.out]; exact hlt)
        rw [per_wid h6, Nat.add_mul, Nat.one_mul] at h1; omega
      have hsa64 : sa ≤ 64 := by
        have h1 : q * wid bl ≤ q * wid bl' := Nat.mul_le_mul_left _ (Nat.pow_le_pow_right (by decide) (by omega))
        omega
      rw [hY]
      have HY' := hid hY'
      clear hY hY' hYY hYlt hsa hsb
      go_wp2
      go_quiet (fail)
      go_wp2
      go_roundw
      case rel => exact ⟨q + 1, by omega, by go_num, by rw [HY'.out], _, rfl⟩
      case measure => simp [intOf]; omega
    · obtain rfl : q = p' := by omega
      go_wp2
      go_ret
      rw [HW.out]
      exact ⟨rfl, _, rfl⟩
end Go.Proofs.Qxb6616660a
