/- LawS5645AWhole: what 'make([]uint32, n)' leaves, as a block. -/
import Derived.Test.YbulkdlwqBlk
import Derived.OwnWalk
namespace Go.Proofs.Ybulkdlwq.huff
open Go.RowKit
set_option linter.unusedVariables false

theorem made_ints (k : IntKind) (n : Nat) : madeCells #[Value.int k 0] n = ofN n k (fun _ => 0) := by
  apply Array.ext_getElem?
  intro j
  by_cases hj : j < n
  · rw [ofN_get _ _ _ _ hj]
    simp [madeCells, hj, Nat.mod_one]
  · have h1 : (ofN n k (fun _ => 0))[j]? = none := by
      rw [Array.getElem?_eq_none_iff, ofN_size]
      omega
    rw [h1, Array.getElem?_eq_none_iff, size_madeCells]
    omega
/-- a row that is full is its block -/
theorem Blk.of_full {w : World} {base g n : Nat} {e : TypeId} {cs : Array Value} (hn : cs.size = n) (h : w.ownsRow base e 1 (.slice (some ⟨g, 0, none⟩) n n) n cs.toList) : Blk w g e cs := by
  rcases h.2 with ⟨h0, _⟩ | ⟨g', cap, cur, hv, hg, hh, r⟩
  · cases h0
  · cases hv
    have h1 : cur.toList.take (n * 1) = cur.toList := List.take_of_length_le (by have := r.2.2.1; simp; omega)
    have h2 : cur = cs := by
      have := r.2.2.2
      rw [h1] at this
      exact Array.toList_inj.1 this
    rw [h2] at hh
    exact hh
end Go.Proofs.Ybulkdlwq.huff
