/- LawS5641AWhole: the contract of 'zzs5641atxnseq' at two rows that read alike. -/
import Derived.Test.YbulkdlumAMem
namespace Go.Proofs.Ybulkdlum.lawA
open Go.RowKit
set_option linter.unusedVariables false

set_option maxRecDepth 100000 in
set_option maxHeartbeats 800000 in
theorem txns_same (g1 g2 m c1 c2 : Nat) (txs : List (Nat × Nat)) (w : World) (hm : m ≤ 256) (hx : txs.length = m) (h1 : Tab w g1 0 4 encT txs) (h2 : Tab w g2 0 4 encT txs) :
    Calls Yba.prog 11 #[.slice (some ⟨g1, 0, none⟩) m c1, .slice (some ⟨g2, 0, none⟩) m c2] w fun e w' => e = .returned (.bool true) ∧ Below w.heap.size w w' := by
  have H1 : Hid (Tab w g1 0 4 encT txs) := h1
  have H2 : Hid (Tab w g2 0 4 encT txs) := h2
  have HX : Hid (txs.length = m) := hx
  clear h1 h2 hx
  go_enter Yba.func11, Yba.ntmps11
  go_wp2
  go_loopw [13] (fun i wr => ∃ k : Nat, k ≤ m ∧ i = .int .i64 k ∧ Hid (Below w.heap.size w wr)) (fun i _ => m - (intOf i).toNat)
  case atStart => exact ⟨0, Nat.zero_le _, rfl, Below.refl _ _⟩
  case round =>
    obtain ⟨k, hk, rfl, HB⟩ := hrel
    by_cases hlt : k < m
    · obtain ⟨⟨f, o⟩, hfo⟩ : ∃ x, txs[k]? = some x := ⟨_, List.getElem?_eq_getElem (by rw [HX.out]; omega)⟩
      have a1 := (H1.out.later HB.out) k _ hfo 1 _ rfl
      have a2 := (H1.out.later HB.out) k _ hfo 2 _ rfl
      have a3 := (H1.out.later HB.out) k _ hfo 3 _ rfl
      have b1 := (H2.out.later HB.out) k _ hfo 1 _ rfl
      have b2 := (H2.out.later HB.out) k _ hfo 2 _ rfl
      have b3 := (H2.out.later HB.out) k _ hfo 3 _ rfl
      simp only [Nat.zero_add] at a1 a2 a3 b1 b2 b3
      have e1 : ((f : Int) != (f : Int)) = false := by simp
      have e2 : ((o : Int) != (o : Int)) = false := by simp
      have e3 : ((0 : Int) != (0 : Int)) = false := by simp
      clear hfo
      go_wp2
      go_quiet (fail)
      go_wp2
      go_roundw
      case rel => exact ⟨k + 1, by omega, by go_num, below_drewN HB.out _⟩
      case measure => simp [intOf]; omega
    · go_wp2
      go_ret
      exact ⟨rfl, HB.out⟩
end Go.Proofs.Ybulkdlum.lawA
