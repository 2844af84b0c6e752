/- LawS5641CWhole: the contract of 'isPrefix'. -/
import Derived.Test.YbulkdlumCParts
namespace Go.Proofs.Ybulkdlum.lawC
open Go.RowKit

set_option maxHeartbeats 400000 in
theorem isp_any (a0 : Option Addr) (n0 c0 : Nat) (xs : List Int) (a1 : Option Addr) (n1 c1 : Nat) (ys : List Int) (w : World)
    (h0 : Row w a0 n0 xs) (h1 : Row w a1 n1 ys) (b0 : n0 ≤ 4194304) (b1 : n1 ≤ 4194304) :
    Calls Yba.prog 15 #[.slice a0 n0 c0, .slice a1 n1 c1] w fun e w' => e = .returned (.bool (pfx xs ys)) ∧ w' = w := by
  obtain ⟨hl0, hc0⟩ := h0
  obtain ⟨hl1, hc1⟩ := h1
  by_cases hlen : n1 < n0
  · have hp := pfx_long (xs := xs) (ys := ys) (by omega)
    rw [hp]
    clear hp hc0 hc1 hl0 hl1
    go_enter Yba.func15, Yba.ntmps15
    go_wp2
    go_ret
    exact ⟨rfl, rfl⟩
  · by_cases hn : n0 = 0
    · subst hn
      have hp := pfx_yes (xs := xs) (ys := ys) (by omega) (fun i hi => by omega)
      rw [hp]
      clear hp hc0 hc1 hl0 hl1
      go_enter Yba.func15, Yba.ntmps15
      go_wp2
      refine wp_loop_rounds 1 ?_
      rw [rounds_succ]
      go_wp2
      go_ret
      exact ⟨rfl, rfl⟩
    · obtain ⟨g0, o0, rfl, hx⟩ := hc0 (by omega)
      obtain ⟨g1, o1, rfl, hy⟩ := hc1 (by omega)
      clear hc0 hc1
      have HL0 : Hid (xs.length = n0) := hl0
      have HL1 : Hid (ys.length = n1) := hl1
      clear hl0 hl1
      go_enter Yba.func15, Yba.ntmps15
      go_wp2
      go_loop [14, 5, 6] (fun i _ _ => ∃ k : Nat, k ≤ n0 ∧ i = .int .i64 k ∧ ∀ j, j < k → xs[j]?.getD 0 = ys[j]?.getD 0) (fun i _ _ => n0 - (intOf i).toNat)
      case atStart => exact ⟨0, by omega, rfl, fun j hj => by omega⟩
      case round =>
        obtain ⟨k, hk, rfl, hs⟩ := hrel
        have HS : Hid (∀ j, j < k → xs[j]?.getD 0 = ys[j]?.getD 0) := hs
        clear hs
        by_cases hlt : k < n0
        · have cx := hx k hlt
          have cy := hy k (by omega)
          clear hx hy
          by_cases he : ys[k]?.getD 0 = xs[k]?.getD 0
          · have hb : (ys[k]?.getD 0 != xs[k]?.getD 0) = false := by simp [he]
            have HE : Hid (ys[k]?.getD 0 = xs[k]?.getD 0) := he
            clear he
            go_wp2
            go_round
            case rel => exact ⟨k + 1, by omega, by go_num, fun j hj => by
              rcases Nat.lt_succ_iff_lt_or_eq.1 hj with h | h
              · exact HS.out j h
              · subst h; exact HE.out.symm⟩
            case measure => simp [intOf]; omega
          · have hb : (ys[k]?.getD 0 != xs[k]?.getD 0) = true := by simp [he]
            have hp := pfx_no (xs := xs) (ys := ys) k (by rw [HL0.out]; omega) (fun h => he h.symm)
            have HP : Hid (pfx xs ys = false) := hp
            clear hp he
            go_wp2
            go_ret
            rw [HP.out]
            exact ⟨rfl, rfl⟩
        · have hp := pfx_yes (xs := xs) (ys := ys) (by rw [HL0.out, HL1.out]; omega) (fun i hi => HS.out i (by rw [HL0.out] at hi; omega))
          have HP : Hid (pfx xs ys = true) := hp
          clear hp hx hy
          go_wp2
          go_ret
          rw [HP.out]
          exact ⟨rfl, rfl⟩
end Go.Proofs.Ybulkdlum.lawC
