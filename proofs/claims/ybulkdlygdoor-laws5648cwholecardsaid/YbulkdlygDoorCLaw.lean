/- LawS5648CWhole: the law's walk. -/
import Derived.Test.YbulkdlygDoorCAlign
namespace Go.Proofs.YbulkdlygDoor.lawC
open Go.RowKit

theorem bcell {W w1 : World} (hb : Below W.heap.size W w1) : (∀ b o, b < W.heap.size → w1.cell? ⟨b, o, none⟩ = W.cell? ⟨b, o, none⟩) ∧ (∀ b o, b < W.heap.size → w1.frozen? ⟨b, o, none⟩ = W.frozen? ⟨b, o, none⟩) :=
  ⟨fun b o h => hb.cell (p := ⟨b, o, none⟩) h, fun b o h => hb.frozen (p := ⟨b, o, none⟩) h⟩

set_option maxHeartbeats 400000 in
theorem law_lt (c d m n : Int) (w : World) (c0 : -9223372036854775808 ≤ c) (c1 : c ≤ 9223372036854775807) (d0 : -9223372036854775808 ≤ d) (d1 : d ≤ 9223372036854775807)
    (m0 : 0 ≤ m) (m1 : m ≤ 65535) (n0 : 0 ≤ n) (n1 : n ≤ 65535) (hlt : m < n) (htab : ∀ i, i < 19 → w.cell? ⟨0, i, none⟩ = some (.int .i64 (pw i))) :
    Calls Ybad.prog 3 #[.int .i64 c, .int .u16 m, .bool false, .int .i64 d, .int .u16 n, .bool false] w fun e w' => e = .returned (.bool true) ∧ Below w.heap.size w w' := by
  have HT : Hid (∀ i, i < 19 → w.cell? ⟨0, i, none⟩ = some (.int .i64 (pw i))) := htab
  clear htab
  go_enter Ybad.func3, Ybad.ntmps3
  go_wp2_with fail
  refine (align_lt c d m n _ c0 c1 d0 d1 m0 m1 n0 n1 hlt (by exact tab2 HT.out _ _)).mono ?_
  rintro e w1 ⟨rfl, hb1⟩
  have hbw : Below w.heap.size w w1 := (((Below.refl _ _).alloc (Nat.le_refl _) _).alloc (by simp) _).trans (hb1.mono (by simp; omega))
  clear hb1
  obtain ⟨A, hA⟩ : ∃ A, sb c (pz (n - m)) = A := ⟨_, rfl⟩
  obtain ⟨B, hB⟩ : ∃ B, sb d (pz 0) = B := ⟨_, rfl⟩
  rw [hA, hB]
  have HA : Hid (sb c (pz (n - m)) = A) := hA
  have HB : Hid (sb d (pz 0) = B) := hB
  clear hA hB
  go_wp2_with fail
  refine (model_int c (n - m) _ c0 c1 (by omega) (by omega)).mono ?_
  rintro e w2 ⟨rfl, rfl⟩
  rw [HA.out]
  go_wp2_with fail
  refine (model_int d 0 _ d0 d1 (by omega) (by omega)).mono ?_
  rintro e w3 ⟨rfl, rfl⟩
  rw [HB.out]
  cases A <;> cases B
  all_goals
    go_wp2
    go_ret
    exact ⟨rfl, hbw⟩
set_option maxHeartbeats 400000 in
theorem law_gt (c d m n : Int) (w : World) (c0 : -9223372036854775808 ≤ c) (c1 : c ≤ 9223372036854775807) (d0 : -9223372036854775808 ≤ d) (d1 : d ≤ 9223372036854775807)
    (m0 : 0 ≤ m) (m1 : m ≤ 65535) (n0 : 0 ≤ n) (n1 : n ≤ 65535) (hlt : n < m) (htab : ∀ i, i < 19 → w.cell? ⟨0, i, none⟩ = some (.int .i64 (pw i))) :
    Calls Ybad.prog 3 #[.int .i64 c, .int .u16 m, .bool false, .int .i64 d, .int .u16 n, .bool false] w fun e w' => e = .returned (.bool true) ∧ Below w.heap.size w w' := by
  have HT : Hid (∀ i, i < 19 → w.cell? ⟨0, i, none⟩ = some (.int .i64 (pw i))) := htab
  clear htab
  go_enter Ybad.func3, Ybad.ntmps3
  go_wp2_with fail
  refine (align_gt c d m n _ c0 c1 d0 d1 m0 m1 n0 n1 hlt (by exact tab2 HT.out _ _)).mono ?_
  rintro e w1 ⟨rfl, hb1⟩
  have hbw : Below w.heap.size w w1 := (((Below.refl _ _).alloc (Nat.le_refl _) _).alloc (by simp) _).trans (hb1.mono (by simp; omega))
  clear hb1
  obtain ⟨A, hA⟩ : ∃ A, sb c (pz 0) = A := ⟨_, rfl⟩
  obtain ⟨B, hB⟩ : ∃ B, sb d (pz (m - n)) = B := ⟨_, rfl⟩
  rw [hA, hB]
  have HA : Hid (sb c (pz 0) = A) := hA
  have HB : Hid (sb d (pz (m - n)) = B) := hB
  clear hA hB
  go_wp2_with fail
  refine (model_int c 0 _ c0 c1 (by omega) (by omega)).mono ?_
  rintro e w2 ⟨rfl, rfl⟩
  rw [HA.out]
  go_wp2_with fail
  refine (model_int d (m - n) _ d0 d1 (by omega) (by omega)).mono ?_
  rintro e w3 ⟨rfl, rfl⟩
  rw [HB.out]
  cases A <;> cases B
  all_goals
    go_wp2
    go_ret
    exact ⟨rfl, hbw⟩
set_option maxHeartbeats 400000 in
theorem law_eq (c d m : Int) (w : World) (c0 : -9223372036854775808 ≤ c) (c1 : c ≤ 9223372036854775807) (d0 : -9223372036854775808 ≤ d) (d1 : d ≤ 9223372036854775807)
    (m0 : 0 ≤ m) (m1 : m ≤ 65535) (htab : ∀ i, i < 19 → w.cell? ⟨0, i, none⟩ = some (.int .i64 (pw i))) :
    Calls Ybad.prog 3 #[.int .i64 c, .int .u16 m, .bool false, .int .i64 d, .int .u16 m, .bool false] w fun e w' => e = .returned (.bool true) ∧ Below w.heap.size w w' := by
  have HT : Hid (∀ i, i < 19 → w.cell? ⟨0, i, none⟩ = some (.int .i64 (pw i))) := htab
  clear htab
  go_enter Ybad.func3, Ybad.ntmps3
  go_wp2_with fail
  refine (align_eq c d m _ c0 c1 d0 d1 m0 m1 (by exact tab2 HT.out _ _)).mono ?_
  rintro e w1 ⟨rfl, hb1⟩
  have hbw : Below w.heap.size w w1 := (((Below.refl _ _).alloc (Nat.le_refl _) _).alloc (by simp) _).trans (hb1.mono (by simp; omega))
  clear hb1
  obtain ⟨A, hA⟩ : ∃ A, sb c (pz 0) = A := ⟨_, rfl⟩
  obtain ⟨B, hB⟩ : ∃ B, sb d (pz 0) = B := ⟨_, rfl⟩
  rw [hA, hB]
  have HA : Hid (sb c (pz 0) = A) := hA
  have HB : Hid (sb d (pz 0) = B) := hB
  clear hA hB
  go_wp2_with fail
  refine (model_int c 0 _ c0 c1 (by omega) (by omega)).mono ?_
  rintro e w2 ⟨rfl, rfl⟩
  rw [HA.out]
  go_wp2_with fail
  refine (model_int d 0 _ d0 d1 (by omega) (by omega)).mono ?_
  rintro e w3 ⟨rfl, rfl⟩
  rw [HB.out]
  cases A <;> cases B
  all_goals
    go_wp2
    go_ret
    exact ⟨rfl, hbw⟩

set_option maxHeartbeats 400000 in
theorem law_db (c d m n : Int) (w : World) (c0 : -9223372036854775808 ≤ c) (c1 : c ≤ 9223372036854775807)
    (m0 : 0 ≤ m) (m1 : m ≤ 65535) (n0 : 0 ≤ n) (n1 : n ≤ 65535) :
    Calls Ybad.prog 3 #[.int .i64 c, .int .u16 m, .bool true, .int .i64 d, .int .u16 n, .bool false] w fun e w' => e = .returned (.bool true) ∧ Below w.heap.size w w' := by
  go_enter Ybad.func3, Ybad.ntmps3
  go_wp2_with fail
  refine (new_any c _ c0 c1).mono ?_
  rintro e w1 ⟨a, rfl, hb1⟩
  obtain ⟨hc, hf⟩ := bcell hb1
  have hz : w.heap.size < w1.heap.size := by have := hb1.size; simp at this; omega
  have hbw : Below w.heap.size w w1 := ((Below.refl _ _).alloc (Nat.le_refl _) _).trans (hb1.mono (by simp))
  clear hb1
  go_wp2_with fail
  refine (align_big 0 d m n (some a) none _ (.inl rfl)).mono ?_
  rintro e w2 ⟨rfl, hb2⟩
  have hbx : Below w.heap.size w w2 := ((((hbw.setCell (by simp) _).setCell (by simp) _).setCell (by simp) _).alloc (by simp; omega) _).trans (hb2.mono (by simp; omega))
  clear hb2 hc hf
  go_wp2
  go_ret
  exact ⟨rfl, hbx⟩

set_option maxHeartbeats 400000 in
theorem law_eb (c d m n : Int) (w : World) (d0 : -9223372036854775808 ≤ d) (d1 : d ≤ 9223372036854775807)
    (m0 : 0 ≤ m) (m1 : m ≤ 65535) (n0 : 0 ≤ n) (n1 : n ≤ 65535) :
    Calls Ybad.prog 3 #[.int .i64 c, .int .u16 m, .bool false, .int .i64 d, .int .u16 n, .bool true] w fun e w' => e = .returned (.bool true) ∧ Below w.heap.size w w' := by
  go_enter Ybad.func3, Ybad.ntmps3
  go_wp2_with fail
  refine (new_any d _ d0 d1).mono ?_
  rintro e w1 ⟨a, rfl, hb1⟩
  obtain ⟨hc, hf⟩ := bcell hb1
  have hz : w.heap.size + 1 < w1.heap.size := by have := hb1.size; simp at this; omega
  have hbw : Below w.heap.size w w1 := (((Below.refl _ _).alloc (Nat.le_refl _) _).alloc (by simp) _).trans (hb1.mono (by simp; omega))
  clear hb1
  go_wp2_with fail
  refine (align_big c 0 m n none (some a) _ (.inr rfl)).mono ?_
  rintro e w2 ⟨rfl, hb2⟩
  have hbx : Below w.heap.size w w2 := (((hbw.setCell (by simp) _).setCell (by simp) _).setCell (by simp) _).trans (hb2.mono (by simp; omega))
  clear hb2 hc hf
  go_wp2
  go_ret
  exact ⟨rfl, hbx⟩

set_option maxHeartbeats 400000 in
theorem law_bb (c d m n : Int) (w : World) (c0 : -9223372036854775808 ≤ c) (c1 : c ≤ 9223372036854775807) (d0 : -9223372036854775808 ≤ d) (d1 : d ≤ 9223372036854775807)
    (m0 : 0 ≤ m) (m1 : m ≤ 65535) (n0 : 0 ≤ n) (n1 : n ≤ 65535) :
    Calls Ybad.prog 3 #[.int .i64 c, .int .u16 m, .bool true, .int .i64 d, .int .u16 n, .bool true] w fun e w' => e = .returned (.bool true) ∧ Below w.heap.size w w' := by
  go_enter Ybad.func3, Ybad.ntmps3
  go_wp2_with fail
  refine (new_any c _ c0 c1).mono ?_
  rintro e w1 ⟨a, rfl, hb1⟩
  obtain ⟨hc, hf⟩ := bcell hb1
  have hz : w.heap.size < w1.heap.size := by have := hb1.size; simp at this; omega
  have hbw : Below w.heap.size w w1 := ((Below.refl _ _).alloc (Nat.le_refl _) _).trans (hb1.mono (by simp))
  clear hb1
  go_wp2_with fail
  refine (new_any d _ d0 d1).mono ?_
  rintro e w2 ⟨a2, rfl, hb2⟩
  obtain ⟨hc2, hf2⟩ := bcell hb2
  have hz2 : w1.heap.size < w2.heap.size := by have := hb2.size; simp at this; omega
  have hz3 : w.heap.size < w1.heap.size + 1 := by omega
  have hbx : Below w.heap.size w w2 := ((((hbw.setCell (by simp) _).setCell (by simp) _).setCell (by simp) _).alloc (by simp; omega) _).trans (hb2.mono (by simp; omega))
  clear hb2
  go_wp2_with fail
  refine (align_big 0 0 m n (some a) (some a2) _ (.inl rfl)).mono ?_
  rintro e w3 ⟨rfl, hb3⟩
  have hby : Below w.heap.size w w3 := (((hbx.setCell (by simp; omega) _).setCell (by simp; omega) _).setCell (by simp; omega) _).trans (hb3.mono (by simp; omega))
  clear hb3 hc hf hc2 hf2
  go_wp2
  go_ret
  exact ⟨rfl, hby⟩
end Go.Proofs.YbulkdlygDoor.lawC
