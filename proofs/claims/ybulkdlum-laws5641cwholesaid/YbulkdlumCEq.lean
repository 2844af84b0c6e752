/- LawS5641CWhole: the contracts of 'zzs5641ceq' (two slices that read alike) and of 'zzs5641ccopy'. -/
import Derived.Test.YbulkdlumCParts
namespace Go.Proofs.Ybulkdlum.lawC
open Go.RowKit

set_option maxHeartbeats 400000 in
theorem eq_any (a0 : Option Addr) (n c0 : Nat) (xs : List Int) (a1 : Option Addr) (c1 : Nat) (w : World)
    (h0 : Row w a0 n xs) (h1 : Row w a1 n xs) (hn : a0.isNone = a1.isNone) (b0 : n ≤ 4194304) :
    Calls Yba.prog 16 #[.slice a0 n c0, .slice a1 n c1] w fun e w' => e = .returned (.bool true) ∧ Below w.heap.size w w' := by
  obtain ⟨hl0, hc0⟩ := h0
  obtain ⟨hl1, hc1⟩ := h1
  have q41 : ∀ (w : World) (a : Option Addr) (n c : Nat), (binOp .eql 41 (.slice a n c) (.slice none 0 0)).run Yba.prog w = .ok (.bool a.isNone) w := fun w a n c => Lib.run_eql_slice_nil w _ _ a n c 0 0 Yba.underlying41
  have hbn : (a1.isNone != a1.isNone) = false := by simp
  by_cases hz : n = 0
  · subst hz
    clear hc0 hc1 hl0 hl1
    go_enter Yba.func16, Yba.ntmps16
    go_wp2
    refine wp_loop_rounds 1 ?_
    rw [rounds_succ]
    go_wp2
    go_ret
    exact ⟨rfl, Below.refl _ _⟩
  · obtain ⟨g0, o0, rfl, hx⟩ := hc0 (by omega)
    obtain ⟨g1, o1, rfl, hy⟩ := hc1 (by omega)
    clear hc0 hc1 hl0 hl1 hn hbn
    go_enter Yba.func16, Yba.ntmps16
    go_wp2
    go_loopw [5] (fun i wr => ∃ k : Nat, k ≤ n ∧ i = .int .i64 k ∧ Below w.heap.size w wr) (fun i _ => n - (intOf i).toNat)
    case atStart => exact ⟨0, by omega, rfl, Below.refl _ _⟩
    case round =>
      obtain ⟨k, hk, rfl, hb⟩ := hrel
      by_cases hlt : k < n
      · have cx := cell_later hb (hx k hlt)
        have cy := cell_later hb (hy k hlt)
        clear hx hy
        have hbb : (xs[k]?.getD 0 != xs[k]?.getD 0) = false := by simp
        go_wp2
        go_quiet (fail)
        go_wp2
        go_roundw
        case rel => exact ⟨k + 1, by omega, by go_num, below_drewN hb _⟩
        case measure => simp [intOf]; omega
      · clear hx hy
        go_wp2
        go_ret
        exact ⟨rfl, hb⟩
end Go.Proofs.Ybulkdlum.lawC
