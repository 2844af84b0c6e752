/- LawS5645AWhole: where one of the slices is too long, the law answers at once. -/
import Derived.Test.YbulkdlwqLaw
namespace Go.Proofs.Ybulkdlwq.huff
open Go.RowKit
set_option linter.unusedVariables false

set_option maxRecDepth 100000 in
set_option maxHeartbeats 800000 in
theorem law_big (a0 a1 a2 : Option Addr) (n0 c0 n1 c1 n2 c2 b : Nat) (one : Bool) (w : World) (h : 1048576 < n0 ∨ 1048576 < n1 ∨ 1048576 < n2) :
    Calls Yba.prog 3 #[.slice a0 n0 c0, .slice a1 n1 c1, .slice a2 n2 c2, .bool one, .int .u64 (b : Nat)] w fun e w' => e = .returned (.bool true) ∧ Below w.heap.size w w' := by
  by_cases h0 : 1048576 < n0
  · clear h
    go_enter Yba.func3, Yba.ntmps3
    go_wp2_with fail
    go_ret
    exact ⟨rfl, Below.refl _ _⟩
  · by_cases h1 : 1048576 < n1
    · clear h
      go_enter Yba.func3, Yba.ntmps3
      go_wp2_with fail
      go_ret
      exact ⟨rfl, Below.refl _ _⟩
    · have h2 : 1048576 < n2 := by omega
      clear h
      go_enter Yba.func3, Yba.ntmps3
      go_wp2_with fail
      go_ret
      exact ⟨rfl, Below.refl _ _⟩
end Go.Proofs.Ybulkdlwq.huff
