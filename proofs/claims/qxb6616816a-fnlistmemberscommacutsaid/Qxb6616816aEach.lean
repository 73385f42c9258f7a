import Derived.Test.Qxb6616816aOut
namespace Go.Proofs.Qxb6616816a
open Go.RowKit Go.Qm

/-- A slice that holds the strings L. -/
structure Ss (D : Nat) (w : World) (ao : Option Addr) (len : Nat) (L : List (List UInt8)) : Prop where
  hlen : L.length = len
  spot : 0 < len → ∃ b off, ao = some ⟨b, off, none⟩ ∧ b < D ∧ ∀ i, i < len → w.cell? ⟨b, off + i, none⟩ = some (.string (ba (L.getD i [])))

theorem take_flat (L : List (List UInt8)) (k : Nat) (h : k < L.length) : (L.take (k + 1)).flatMap mem = (L.take k).flatMap mem ++ mem (L.getD k []) := by
  rw [List.take_succ_eq_append_getElem h, List.flatMap_append]
  simp [List.getD, h]
theorem flat_le (L : List (List UInt8)) (k : Nat) : ((L.take k).flatMap mem).length ≤ (L.flatMap mem).length := by
  have h : L.flatMap mem = (L.take k).flatMap mem ++ (L.drop k).flatMap mem := by rw [← List.flatMap_append, List.take_append_drop]
  rw [h, List.length_append]; omega

theorem below_drewN {B : Nat} {a w : World} (h : Below B a w) (q : Nat) : Below B a (w.drewN q) := h.trans ⟨rfl, rfl, rfl, Nat.le_refl _, fun _ _ => rfl⟩

def meas : Value → Value → Nat
  | .string s, .bool true => s.size + 1
  | _, _ => 0

theorem mem_pos (l : List UInt8) : 1 ≤ (mem l).length := by
  cases h : cutP 0 l with
  | none => rw [mem_none h]; simp
  | some i => rw [mem_some h]; simp

set_option maxRecDepth 100000 in
set_option maxHeartbeats 2000000 in
theorem each_any {w : World} {B : Nat} {ao : Option Addr} {len cap : Nat} {L xs : List (List UInt8)} (h : Ss B w ao len L) (ho : Out w B xs) (hL : ∀ i, i < len → (L.getD i []).length ≤ 2097152) (hlen : len ≤ 2097152) (hm : xs.length + (L.flatMap mem).length ≤ 2097152) :
    Calls Try.prog 14 #[.slice ao len cap, .func (.func 15) #[] #[.pointer (some ⟨B, 0, none⟩)]] w fun e w' => e = .returned (.tuple #[]) ∧ Out w' B (xs ++ L.flatMap mem) ∧ Below B w w' := by
  have HS := hid h
  have HO := hid ho
  have HM := hid hm
  have HL := hid hL
  clear h ho hm hL
  go_enter Try.func14, Try.ntmps14
  go_wp2
  go_loopw [10] (fun i wr => ∃ k : Nat, k ≤ len ∧ i = .int .i64 k ∧ Out wr B (xs ++ (L.take k).flatMap mem) ∧ Below B w wr) (fun i _ => len - (intOf i).toNat)
  case atStart => exact ⟨0, Nat.zero_le _, rfl, by simpa using HO.out, Below.refl _ _⟩
  case round =>
    obtain ⟨k, hk, rfl, hout, hbel⟩ := hrel
    by_cases hlt : k < len
    · obtain ⟨b, off, ha, hb, hc⟩ := HS.out.spot (by omega)
      cases ha
      have c1 : wr.cell? ⟨b, off + k, none⟩ = some (.string (ba (L.getD k []))) := (hbel.cell hb).trans (hc k hlt)
      have hll := HL.out k hlt
      have htf := take_flat L k (by rw [HS.out.hlen]; exact hlt)
      have hfl := flat_le L (k + 1)
      rw [htf] at hfl
      obtain ⟨line, hline⟩ : ∃ line, L.getD k [] = line := ⟨_, rfl⟩
      rw [hline] at c1 hll htf hfl
      obtain ⟨acc, hacc⟩ : ∃ acc, xs ++ (L.take k).flatMap mem = acc := ⟨_, rfl⟩
      have hacc2 : xs ++ (L.take (k + 1)).flatMap mem = acc ++ mem line := by rw [htf, ← List.append_assoc, hacc]
      have hbound : acc.length + (mem line).length ≤ 2097152 := by
        have := HM.out
        rw [← hacc]
        simp only [List.length_append] at *
        omega
      rw [hacc] at hout
      have HOUT := hid hout
      have HBEL := hid hbel
      have HACC := hid hacc2
      have HBD := hid hbound
      clear hout hbel hacc hacc2 htf hfl hline hc hbound
      go_wp2
      go_loopw [5, 6] (fun s m wi => ∃ (rest : List UInt8) (bb : Bool) (done : List (List UInt8)), s = .string (ba rest) ∧ m = .bool bb ∧ rest.length ≤ 2097152 ∧ Out wi B done ∧ (if bb then done ++ mem rest = acc ++ mem line else done = acc ++ mem line) ∧ Below B w wi) (fun s m _ => meas s m)
      case atStart => exact ⟨line, true, acc, rfl, rfl, hll, HOUT.out, by simp, HBEL.out⟩
      case round =>
        obtain ⟨rest, bb, done, rfl, rfl, hrl, hdo, hif, hbe⟩ := hrel
        cases bb with
        | true =>
          have hif' : done ++ mem rest = acc ++ mem line := by simpa using hif
          have hdl : done.length + (mem rest).length ≤ 2097152 := by
            rw [← List.length_append, hif', List.length_append]; exact HBD.out
          have hmp := mem_pos rest
          have HIF := hid hif'
          have HDO := hid hdo
          have HBE := hid hbe
          have HC := hid fun wx => cut_any rest wx hrl
          clear hif hif' hdo hbe
          cases hcp : cutP 0 rest with
          | none =>
            rw [cutV_none hcp] at HC
            have HMN := hid (mem_none hcp)
            clear hcp
            go_wp2_with (first | (go_at_call 16; refine (HC.out _).mono ?_; rintro e w1 ⟨⟨q, rfl⟩, rfl⟩) | (go_at_call 15; refine (clo_any (HDO.out.heap (by rfl)) rest (by omega)).mono ?_; rintro e w2 ⟨rfl, ho2, hb2⟩))
            go_roundw
            case rel =>
              exact ⟨[], false, done ++ [rest], rfl, rfl, by simp, ho2, by simp; rw [← HMN.out]; exact HIF.out, (below_drewN HBE.out _).trans hb2⟩
            case measure => simp [meas]
          | some i =>
            rw [cutV_some hcp] at HC
            have HMS := hid (mem_some hcp)
            have hil := cutP_lt rest 0 i hcp
            clear hcp
            go_wp2_with (first | (go_at_call 16; refine (HC.out _).mono ?_; rintro e w1 ⟨⟨q, rfl⟩, rfl⟩) | (go_at_call 15; refine (clo_any (HDO.out.heap (by rfl)) (rest.take i) (by omega)).mono ?_; rintro e w2 ⟨rfl, ho2, hb2⟩))
            go_roundw
            case rel =>
              exact ⟨rest.drop (i + 1), true, done ++ [rest.take i], rfl, rfl, by simp; omega, ho2, by simp; rw [← HIF.out, HMS.out], (below_drewN HBE.out _).trans hb2⟩
            case measure => simp [meas, ba_size]; omega
        | false =>
          have hif' : done = acc ++ mem line := by simpa using hif
          subst hif'
          have HDO := hid hdo
          have HBE := hid hbe
          clear hdo hbe hif
          go_wp2
          go_roundw
          case rel => exact ⟨k + 1, by omega, by go_num, by rw [HACC.out]; exact HDO.out, HBE.out⟩
          case measure => simp [intOf]; omega
    · obtain rfl : k = len := by omega
      go_wp2
      go_end0
      have e : L.take k = L := List.take_of_length_le (by rw [HS.out.hlen]; exact Nat.le_refl _)
      rw [e] at hout
      exact ⟨rfl, hout, hbel⟩
end Go.Proofs.Qxb6616816a
