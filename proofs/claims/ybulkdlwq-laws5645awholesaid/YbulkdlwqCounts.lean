/- LawS5645AWhole: the contract of lengthCounts. -/
import Derived.Test.YbulkdlwqMem
namespace Go.Proofs.Ybulkdlwq.huff
open Go.RowKit
set_option linter.unusedVariables false

/-- the counts behind k symbols -/
def cntTo (L : List Nat) (k l : Nat) : Nat := (L.take k).count l
theorem cntTo_zero (L : List Nat) (l : Nat) : cntTo L 0 l = 0 := by simp [cntTo]
theorem cntTo_succ {L : List Nat} {k : Nat} (hk : k < L.length) (l : Nat) : cntTo L (k + 1) l = if l = L.getD k 0 then cntTo L k (L.getD k 0) + 1 else cntTo L k l := by
  unfold cntTo
  rw [List.take_add_one, List.getElem?_eq_getElem hk, List.count_append]
  simp only [Option.toList, List.getD, List.getElem?_eq_getElem hk, Option.getD_some, List.count_singleton]
  by_cases e : l = L[k]
  · subst e
    simp
  · rw [if_neg e, if_neg (by simpa using fun x => e x.symm)]
    rfl
theorem cntTo_all (L : List Nat) (l : Nat) : (if l = 0 then 0 else cntTo L L.length l) = cnt L l := by simp [cntTo, cnt]
theorem cntTo_le (L : List Nat) (k l : Nat) : cntTo L k l ≤ k := by
  unfold cntTo
  exact Nat.le_trans List.count_le_length (by simp; omega)

set_option maxRecDepth 100000 in
set_option maxHeartbeats 800000 in
theorem counts_any (g o n c : Nat) (L : List Nat) (w : World) (hL : L.length = n) (hn : n ≤ 288) (h15 : ∀ s, L.getD s 0 ≤ 15) (hR : Rd w g o n .u8 (fun i => L.getD i 0)) :
    Calls Yba.prog 9 #[.slice (some ⟨g, o, none⟩) n c] w fun e w' => e = .returned (.agg (ofN 16 .i64 (cnt L))) ∧ Below w.heap.size w w' := by
  have HL : Hid (L.length = n) := hL
  have HR : Hid (Rd w g o n .u8 (fun i => L.getD i 0)) := hR
  have H15 : Hid (∀ s, L.getD s 0 ≤ 15) := h15
  clear hL hR h15
  go_enter Yba.func9, Yba.ntmps9
  go_wp2_with fail
  go_loopw [7] (fun iv wr => ∃ k : Nat, k ≤ n ∧ iv = .int .i64 k ∧ Hid (wr = w.alloc (.cells (ofN 16 .i64 (cntTo L k)) 39))) (fun iv _ => n - (intOf iv).toNat)
  case atStart =>
    refine ⟨0, Nat.zero_le _, rfl, ?_⟩
    show _ = _
    rw [show ofN 16 .i64 (cntTo L 0) = ofN 16 .i64 (fun _ => 0) from ofN_congr (fun i _ => cntTo_zero L i)]
    rfl
  case round =>
    obtain ⟨k, hk, rfl, HW⟩ := hrel
    by_cases hlt : k < n
    · obtain ⟨l, hl⟩ : ∃ l, l = L.getD k 0 := ⟨_, rfl⟩
      have hl15 : l ≤ 15 := by rw [hl]; exact H15.out k
      have HLL : Hid (l = L.getD k 0) := hl
      have c0 : wr.cell? ⟨g, o + k, none⟩ = some (.int .u8 (l : Nat)) := by
        rw [hl, HW.out]
        exact (HR.out.later ((Below.refl _ _).alloc (Nat.le_refl _) _)) k hlt
      have c1 : wr.cell? ⟨w.heap.size, l, none⟩ = some (.int .i64 (cntTo L k l : Nat)) := by
        have := (Rd.of_new w 16 .i64 (cntTo L k) 39) l (by omega)
        rw [HW.out, ← this, Nat.zero_add]
      have c2 : wr.frozen? ⟨w.heap.size, l, none⟩ = false := by rw [HW.out]; simp [go_sem]
      have b1 := cntTo_le L k l
      clear hl
      go_wp2_with fail
      go_roundw
      case rel =>
        refine ⟨k + 1, by omega, by go_num, ?_⟩
        show _ = _
        rw [HW.out, World.setCell_alloc_at _ _ _ _ _ rfl]
        have e : ((cntTo L k l : Nat) : Int) + 1 = ((cntTo L k l + 1 : Nat) : Int) := by omega
        rw [e, ofN_set _ _ _ _ _ (by omega)]
        congr 3
        funext j
        rw [cntTo_succ (by rw [HL.out]; exact hlt), ← HLL.out]
      case measure => simp [intOf]; omega
    · obtain rfl : k = n := by omega
      obtain ⟨f, hf⟩ : ∃ f, f = cntTo L k := ⟨_, rfl⟩
      have HF : Hid (f = cntTo L k) := hf
      have hw : wr = w.alloc (.cells #[.int .i64 (f 0 : Nat), .int .i64 (f 1 : Nat), .int .i64 (f 2 : Nat), .int .i64 (f 3 : Nat), .int .i64 (f 4 : Nat), .int .i64 (f 5 : Nat), .int .i64 (f 6 : Nat), .int .i64 (f 7 : Nat), .int .i64 (f 8 : Nat), .int .i64 (f 9 : Nat), .int .i64 (f 10 : Nat), .int .i64 (f 11 : Nat), .int .i64 (f 12 : Nat), .int .i64 (f 13 : Nat), .int .i64 (f 14 : Nat), .int .i64 (f 15 : Nat)] 39) := by rw [HW.out, ← hf]; rfl
      subst hw
      have HE : Hid ((.agg #[.int .i64 0, .int .i64 (f 1 : Nat), .int .i64 (f 2 : Nat), .int .i64 (f 3 : Nat), .int .i64 (f 4 : Nat), .int .i64 (f 5 : Nat), .int .i64 (f 6 : Nat), .int .i64 (f 7 : Nat), .int .i64 (f 8 : Nat), .int .i64 (f 9 : Nat), .int .i64 (f 10 : Nat), .int .i64 (f 11 : Nat), .int .i64 (f 12 : Nat), .int .i64 (f 13 : Nat), .int .i64 (f 14 : Nat), .int .i64 (f 15 : Nat)] : Value) = .agg (ofN 16 .i64 (cnt L))) := by
        show _ = _
        have : ofN 16 .i64 (cnt L) = ofN 16 .i64 (fun j => if j = 0 then 0 else f j) := ofN_congr (fun i _ => by rw [← cntTo_all, hf, HL.out])
        rw [this]
        rfl
      have HB : Hid (Below w.heap.size w (w.alloc (.cells #[.int .i64 0, .int .i64 (f 1 : Nat), .int .i64 (f 2 : Nat), .int .i64 (f 3 : Nat), .int .i64 (f 4 : Nat), .int .i64 (f 5 : Nat), .int .i64 (f 6 : Nat), .int .i64 (f 7 : Nat), .int .i64 (f 8 : Nat), .int .i64 (f 9 : Nat), .int .i64 (f 10 : Nat), .int .i64 (f 11 : Nat), .int .i64 (f 12 : Nat), .int .i64 (f 13 : Nat), .int .i64 (f 14 : Nat), .int .i64 (f 15 : Nat)] 39))) := (Below.refl _ _).alloc (Nat.le_refl _) _
      clear hf HW HR HL
      go_wp2_with fail
      refine bodyPost_ret (v := .agg #[.int .i64 0, .int .i64 (f 1 : Nat), .int .i64 (f 2 : Nat), .int .i64 (f 3 : Nat), .int .i64 (f 4 : Nat), .int .i64 (f 5 : Nat), .int .i64 (f 6 : Nat), .int .i64 (f 7 : Nat), .int .i64 (f 8 : Nat), .int .i64 (f 9 : Nat), .int .i64 (f 10 : Nat), .int .i64 (f 11 : Nat), .int .i64 (f 12 : Nat), .int .i64 (f 13 : Nat), .int .i64 (f 14 : Nat), .int .i64 (f 15 : Nat)]) (by simp [results, Yba.results9, go_sem]) rfl ⟨?_, HB.out⟩
      rw [HE.out]
end Go.Proofs.Ybulkdlwq.huff
