/- LawS5641AWhole: the contract of '(*History).opsOf'. -/
import Derived.Test.YbulkdlumAMem
namespace Go.Proofs.Ybulkdlum.lawA
open Go.RowKit
set_option linter.unusedVariables false

/-- where mops[f:o] begins: at the end of the room the cut is laid at the row's head -/
def opOff (f n : Nat) : Nat := if f = n then 0 else f * 6

set_option maxHeartbeats 400000 in
theorem ops_core (gh gt gm n m f o : Nat) (t : Nat) (w : World) (ht : t < m) (hn : n ≤ 256) (hm2 : m ≤ 256) (hf : f ≤ o) (hto : o ≤ n)
    (h0 : w.cell? ⟨gh, 0, none⟩ = some (.slice (some ⟨gt, 0, none⟩) m m)) (h2 : w.cell? ⟨gh, 2, none⟩ = some (.slice (some ⟨gm, 0, none⟩) n n))
    (c2 : w.cell? ⟨gt, t * 4 + 2, none⟩ = some (.int .i64 f)) (c3 : w.cell? ⟨gt, t * 4 + 3, none⟩ = some (.int .i64 o)) :
    Calls Yba.prog 17 #[.pointer (some ⟨gh, 0, none⟩), .int .i64 t] w fun e w' => e = .returned (.slice (some ⟨gm, opOff f n, none⟩) (o - f) (n - f)) ∧ Below w.heap.size w w' := by
  by_cases hfn : f = n
  · subst hfn
    obtain rfl : f = o := by omega
    have e : opOff f f = 0 := by simp [opOff]
    rw [e, Nat.sub_self]
    clear e
    go_enter Yba.func17, Yba.ntmps17
    go_wp2
    go_quiet (fail)
    go_wp2
    go_ret
    exact ⟨rfl, below_drewN (Below.refl _ _) _⟩
  · have e : opOff f n = f * 6 := by simp [opOff, hfn]
    rw [e]
    clear e
    have hfn' : ¬ n = f := fun h => hfn h.symm
    go_enter Yba.func17, Yba.ntmps17
    go_wp2
    go_quiet (fail)
    go_wp2
    go_ret
    exact ⟨rfl, below_drewN (Below.refl _ _) _⟩

theorem ops_any (gh gt gm n m : Nat) (txs : List (Nat × Nat)) (t : Nat) (w : World) (ht : t < txs.length) (hm : txs.length = m) (hn : n ≤ 256) (hm2 : m ≤ 256)
    (hf : txs[t].1 ≤ txs[t].2) (hto : txs[t].2 ≤ n)
    (h0 : w.cell? ⟨gh, 0, none⟩ = some (.slice (some ⟨gt, 0, none⟩) m m)) (h2 : w.cell? ⟨gh, 2, none⟩ = some (.slice (some ⟨gm, 0, none⟩) n n))
    (hT : Tab w gt 0 4 encT txs) :
    Calls Yba.prog 17 #[.pointer (some ⟨gh, 0, none⟩), .int .i64 t] w fun e w' => e = .returned (.slice (some ⟨gm, opOff txs[t].1 n, none⟩) (txs[t].2 - txs[t].1) (n - txs[t].1)) ∧ Below w.heap.size w w' := by
  obtain ⟨_, _, c2, c3⟩ := hT.txn t ht
  rw [Nat.zero_add] at c2 c3
  exact ops_core gh gt gm n m _ _ t w (by omega) hn hm2 hf hto h0 h2 c2 c3

/-- the operations of a cut, where they lie -/
theorem Tab.cut {w : World} {g : Nat} {xs : List Mop} (h : Tab w g 0 6 encM xs) (f o : Nat) (hfo : f ≤ o) (ho : o ≤ xs.length) : Tab w g (opOff f xs.length) 6 encM ((xs.drop f).take (o - f)) := by
  intro j x hj i v hi
  rw [List.getElem?_take] at hj
  split at hj
  · rename_i hlt
    rw [List.getElem?_drop] at hj
    have hlt2 : f + j < xs.length := (List.getElem?_eq_some_iff.1 hj).1
    have := h (f + j) x hj i v hi
    have e : opOff f xs.length = f * 6 := by simp [opOff]; omega
    rw [e]
    rw [show f * 6 + j * 6 + i = 0 + (f + j) * 6 + i by omega]
    exact this
  · cases hj
end Go.Proofs.Ybulkdlum.lawA
