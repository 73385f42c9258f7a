import Derived.Test.Qxb6616660aDoorReadsLo
import Derived.Test.Qxb6616660aDoorReadsHi
namespace Go.Proofs.Qxb6616660aDoor
open Go.RowKit Go.Qm

theorem reads_main {D D' : Nat} {w : World} {ao ao' : Option Addr} {len cap len' cap' k : Nat} {l l' : List UInt8} (h : Bs D w ao len cap l) (h' : Bs D' w ao' len' cap' l') (hl : len ≤ 524288) (hl' : len' ≤ 524288) (hk : k ≤ len)
    (T : TypeId) (x : Value) (hG : w.cell? ⟨0, 0, none⟩ = some (.iface T x)) :
    Calls Tryd.prog 3 #[.slice ao len cap, .slice ao' len' cap', .int .i64 (k : Int)] w fun e w' => e = .returned (.bool true) ∧ Upd [] w w' := by
  have hlen := h.hlen
  have hle := lowAt_le l
  obtain ⟨tt, htt⟩ : ∃ tt, lowAt l = tt := ⟨_, rfl⟩
  by_cases h1 : tt = len
  · exact reads_end h h' hl hl' hk T x hG (by rw [htt, h1, hlen])
  have h2 : tt < len := by omega
  by_cases h9 : 9 < tt
  · exact reads_big h h' hl hl' hk T x hG tt h2 htt h9
  obtain ⟨V, hV⟩ : ∃ V, num (dg l (tt + 1)) = V := ⟨_, rfl⟩
  obtain ⟨U, hU⟩ : ∃ U, tt + 1 + V = U := ⟨_, rfl⟩
  by_cases h9' : tt = 9
  · by_cases hy : (l.getD 9 0).toNat ≤ 1
    · by_cases hs : len - (tt + 1) < V
      · exact reads_short9 h h' hl hl' hk T x hG tt h2 htt h9' hy V hV hs
      · by_cases hkU : k < U
        · exact reads_okLo9 h h' hl hl' hk T x hG tt h2 htt h9' hy V hV U hU (by omega) hkU
        · exact reads_okHi9 h h' hl hl' hk T x hG tt h2 htt h9' hy V hV U hU (by omega) (by omega)
    · subst h9'
      exact reads_nine h h' hl hl' hk T x hG h2 htt (by omega)
  · by_cases hs : len - (tt + 1) < V
    · exact reads_short h h' hl hl' hk T x hG tt h2 htt (by omega) V hV hs
    · by_cases hkU : k < U
      · exact reads_okLo h h' hl hl' hk T x hG tt h2 htt (by omega) V hV U hU (by omega) hkU
      · exact reads_okHi h h' hl hl' hk T x hG tt h2 htt (by omega) V hV U hU (by omega) (by omega)

set_option maxRecDepth 100000 in
set_option maxHeartbeats 1000000 in
theorem reads_big1 {w : World} {ao ao' : Option Addr} {len cap len' cap' : Nat} {k : Int} (hl : 524288 < len) (hm : len ≤ 9223372036854775807) (hm' : len' ≤ 9223372036854775807) :
    Calls Tryd.prog 3 #[.slice ao len cap, .slice ao' len' cap', .int .i64 k] w fun e w' => e = .returned (.bool true) ∧ w' = w := by
  go_enter Tryd.func3, Tryd.ntmps3
  go_wp2
  all_goals
    go_ret
    exact ⟨rfl, rfl⟩
set_option maxRecDepth 100000 in
set_option maxHeartbeats 1000000 in
theorem reads_big2 {w : World} {ao ao' : Option Addr} {len cap len' cap' : Nat} {k : Int} (hl : 524288 < len') (hm : len ≤ 9223372036854775807) (hm' : len' ≤ 9223372036854775807) :
    Calls Tryd.prog 3 #[.slice ao len cap, .slice ao' len' cap', .int .i64 k] w fun e w' => e = .returned (.bool true) ∧ w' = w := by
  go_enter Tryd.func3, Tryd.ntmps3
  go_wp2
  all_goals
    go_ret
    exact ⟨rfl, rfl⟩
set_option maxRecDepth 100000 in
set_option maxHeartbeats 1000000 in
theorem reads_out {w : World} {ao ao' : Option Addr} {len cap len' cap' : Nat} {k : Int} (hl : len ≤ 524288) (hl' : len' ≤ 524288) (hk : k < 0 ∨ len < k) :
    Calls Tryd.prog 3 #[.slice ao len cap, .slice ao' len' cap', .int .i64 k] w fun e w' => e = .returned (.bool true) ∧ w' = w := by
  rcases hk with hk | hk
  all_goals
    go_enter Tryd.func3, Tryd.ntmps3
    go_wp2
    go_ret
    exact ⟨rfl, rfl⟩
end Go.Proofs.Qxb6616660aDoor
