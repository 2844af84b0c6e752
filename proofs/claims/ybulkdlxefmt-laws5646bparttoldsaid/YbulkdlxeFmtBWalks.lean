/- LawS5646BPart: the law's walk: no call of fmt is ever come to. -/
import Derived.Test.YbulkdlxeFmtRows
import Derived.WalkKit
import Derived.WalkSpells
import Derived.WalkLawsBesides
namespace Go.Proofs.YbulkdlxeFmt.lawB
open Go.RowKit

set_option maxHeartbeats 400000 in
theorem law_any (c : ByteArray) (k : Int) (t : ByteArray) (w : World) :
    Calls Ybaf.prog 3 #[.string c, .int .i64 k, .string t] w fun e w' => e = .returned (.bool true) ∧ w' = w := by
  by_cases h0 : k = 0
  · subst h0
    go_enter Ybaf.func3, Ybaf.ntmps3
    go_wp2
    go_ret
    exact ⟨rfl, rfl⟩
  · by_cases h1 : k = 1
    · subst h1
      go_enter Ybaf.func3, Ybaf.ntmps3
      go_wp2
      go_ret
      exact ⟨rfl, rfl⟩
    · have e0 : (k == 0) = false := by simpa using h0
      have e1 : (k == 1) = false := by simpa using h1
      have f0 : (k != 0) = true := by simpa using h0
      have f1 : (k != 1) = true := by simpa using h1
      go_enter Ybaf.func3, Ybaf.ntmps3
      go_wp2
      go_ret
      exact ⟨rfl, rfl⟩
end Go.Proofs.YbulkdlxeFmt.lawB
