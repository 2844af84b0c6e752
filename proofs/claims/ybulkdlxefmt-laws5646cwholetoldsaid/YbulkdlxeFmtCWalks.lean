/- LawS5646CWhole: the contract of 'workersLine' and the law's walk, for every F. -/
import Derived.Test.YbulkdlxeFmtCFacts
import Derived.Test.YbulkdlxeFmtShelf
import Derived.WalkKit
import Derived.WalkSpells
import Derived.WalkLawsBesides
import Derived.Lib.AppendIntMem
namespace Go.Proofs.YbulkdlxeFmt.lawC
open Go.RowKit Go.Extern.Stop Go.Stop Go.Extern
attribute [local go_sem] call9 guard fmt2 fmt2r op3_100 op9_115

set_option maxHeartbeats 400000 in
theorem line_one (F : Interp) (w : World) (hF : F.answers w.tape) :
    Calls Ybaf.prog 7 #[.int .i64 1] w fun e w' => e = .returned (.string (FmtStop.textOf (F "fmt.Sprintf" (reading 1 [112, 114, 111, 99, 101, 115, 115]) 0))) ∧
      w' = (w.alloc (.cells #[.iface 3 (.int .i64 1), .iface 9 (.string ⟨#[112, 114, 111, 99, 101, 115, 115]⟩)] 20)).drew := by
  have hF' := answers_open hF
  go_enter Ybaf.func7, Ybaf.ntmps7
  go_wp2
  go_ret
  exact ⟨rfl, rfl⟩

set_option maxHeartbeats 400000 in
theorem line_more (F : Interp) (n : Int) (w : World) (hn : (n == 1) = false) (hF : F.answers w.tape) :
    Calls Ybaf.prog 7 #[.int .i64 n] w fun e w' => e = .returned (.string (FmtStop.textOf (F "fmt.Sprintf" (reading n [112, 114, 111, 99, 101, 115, 115, 101, 115]) 0))) ∧
      w' = (w.alloc (.cells #[.iface 3 (.int .i64 n), .iface 9 (.string ⟨#[112, 114, 111, 99, 101, 115, 115, 101, 115]⟩)] 20)).drew := by
  have hF' := answers_open hF
  go_enter Ybaf.func7, Ybaf.ntmps7
  go_wp2
  go_ret
  exact ⟨rfl, rfl⟩

theorem says (n : Int) (nm : List UInt8) : (line n nm == ((⟨#[82, 117, 110, 110, 105, 110, 103, 32, 111, 110, 32]⟩ : ByteArray) ++ ⟨(Lib.itoa n).toArray⟩ ++ ⟨#[32, 119, 111, 114, 107, 101, 114, 32]⟩ ++ ⟨nm.toArray⟩ ++ ⟨#[10]⟩).toList) = true := by
  rw [ByteArray.toList_eq]
  simp [line, ByteArray.data_append]

theorem ret_true {p : Bool} (h : p = true) : Ending.returned (.bool p) = .returned (.bool true) := by rw [h]

set_option maxHeartbeats 400000 in
theorem law_more (F : Interp) (n : Int) (w : World) (h0 : -9223372036854775808 ≤ n) (h1 : n ≤ 9223372036854775807) (hn : (n == 1) = false) (hF : F.answers w.tape)
    (htab : Lib.TabIs Ybaf.prog w Ybaf.powName .u64 Lib.pow10Tab) (hl : (Lib.itoa n).length ≤ 21)
    (hT : FmtStop.textOf (F "fmt.Sprintf" (reading n [112, 114, 111, 99, 101, 115, 115, 101, 115]) 0) = ⟨(line n [112, 114, 111, 99, 101, 115, 115, 101, 115]).toArray⟩) :
    Calls Ybaf.prog 4 #[.int .i64 n] w fun e w' => e = .returned (.bool true) ∧ Below w.heap.size w w' := by
  have HT : Hid (FmtStop.textOf (F "fmt.Sprintf" (reading n [112, 114, 111, 99, 101, 115, 115, 101, 115]) 0) = ⟨(line n [112, 114, 111, 99, 101, 115, 115, 101, 115]).toArray⟩) := hT
  have HF : Hid (F.answers w.tape) := hF
  have HTAB : Hid (Lib.TabIs Ybaf.prog w Ybaf.powName .u64 Lib.pow10Tab) := htab
  clear hT hF htab
  go_enter Ybaf.func4, Ybaf.ntmps4
  go_wp2_with fail
  refine (Ybaf.strconv_Itoa n h0 h1 _ HTAB.out).mono ?_
  rintro e w1 ⟨rfl, k, os, hw1⟩
  have hb : Below w.heap.size w w1 := by rw [hw1]; exact Lib.below_grow _ _ (Nat.le_refl _) _ _
  have hF1 : F.answers w1.tape := by rw [hb.tape]; exact HF.out
  clear hw1
  have HF1 : Hid (F.answers w1.tape) := hF1
  clear hF1
  go_wp2_with fail
  refine (line_more F n _ hn HF1.out).mono ?_
  rintro e w2 ⟨rfl, hw2⟩
  rw [HT.out]
  have hb2 : Below w.heap.size w w2 := by rw [hw2]; exact (hb.alloc hb.size _).drew
  clear hw2
  go_wp2_with fail
  go_ret
  exact ⟨ret_true (says n [112, 114, 111, 99, 101, 115, 115, 101, 115]), hb2⟩

set_option maxHeartbeats 400000 in
theorem law_one (F : Interp) (w : World) (hF : F.answers w.tape)
    (htab : Lib.TabIs Ybaf.prog w Ybaf.powName .u64 Lib.pow10Tab) (hl : (Lib.itoa 1).length ≤ 21)
    (hT : FmtStop.textOf (F "fmt.Sprintf" (reading 1 [112, 114, 111, 99, 101, 115, 115]) 0) = ⟨(line 1 [112, 114, 111, 99, 101, 115, 115]).toArray⟩) :
    Calls Ybaf.prog 4 #[.int .i64 1] w fun e w' => e = .returned (.bool true) ∧ Below w.heap.size w w' := by
  have HT : Hid (FmtStop.textOf (F "fmt.Sprintf" (reading 1 [112, 114, 111, 99, 101, 115, 115]) 0) = ⟨(line 1 [112, 114, 111, 99, 101, 115, 115]).toArray⟩) := hT
  have HF : Hid (F.answers w.tape) := hF
  have HTAB : Hid (Lib.TabIs Ybaf.prog w Ybaf.powName .u64 Lib.pow10Tab) := htab
  clear hT hF htab
  go_enter Ybaf.func4, Ybaf.ntmps4
  go_wp2_with fail
  refine (Ybaf.strconv_Itoa 1 (by omega) (by omega) _ HTAB.out).mono ?_
  rintro e w1 ⟨rfl, k, os, hw1⟩
  have hb : Below w.heap.size w w1 := by rw [hw1]; exact Lib.below_grow _ _ (Nat.le_refl _) _ _
  have hF1 : F.answers w1.tape := by rw [hb.tape]; exact HF.out
  clear hw1
  have HF1 : Hid (F.answers w1.tape) := hF1
  clear hF1
  go_wp2_with fail
  refine (line_one F _ HF1.out).mono ?_
  rintro e w2 ⟨rfl, hw2⟩
  rw [HT.out]
  have hb2 : Below w.heap.size w w2 := by rw [hw2]; exact (hb.alloc hb.size _).drew
  clear hw2
  go_wp2_with fail
  go_ret
  exact ⟨ret_true (says 1 [112, 114, 111, 99, 101, 115, 115]), hb2⟩
end Go.Proofs.YbulkdlxeFmt.lawC
