/- LawS5648CWhole: the contracts of 'big.NewInt' (some pointer) and of 'alignedSmall'. -/
import Derived.Test.YbulkdlygDoorCScale
namespace Go.Proofs.YbulkdlygDoor.lawC
open Go.RowKit

/-- 10^k at an int -/
def pz (k : Int) : Int := pw k.toNat

theorem scale_int (c k : Int) (w : World) (c0 : -9223372036854775808 ≤ c) (c1 : c ≤ 9223372036854775807) (k0 : 0 ≤ k) (k1 : k ≤ 65535)
    (htab : ∀ i, i < 19 → w.cell? ⟨0, i, none⟩ = some (.int .i64 (pw i))) :
    Calls Ybad.prog 13 #[.int .i64 c, .int .i64 k] w fun e w' => e = .returned (.tuple #[.int .i64 (sv c (pz k)), .bool (sb c (pz k))]) ∧ w' = w := by
  obtain ⟨n, rfl⟩ := Int.eq_ofNat_of_zero_le k0
  exact scale_any c n w c0 c1 (by omega) htab
theorem model_int (c k : Int) (w : World) (c0 : -9223372036854775808 ≤ c) (c1 : c ≤ 9223372036854775807) (k0 : 0 ≤ k) (k1 : k ≤ 65535) :
    Calls Ybad.prog 6 #[.int .i64 c, .int .i64 k] w fun e w' => e = .returned (.tuple #[.int .i64 (sv c (pz k)), .bool (sb c (pz k))]) ∧ w' = w := by
  obtain ⟨n, rfl⟩ := Int.eq_ofNat_of_zero_le k0
  exact model_any c n w c0 c1 (by omega)

set_option maxHeartbeats 400000 in
theorem new_any (x : Int) (w : World) (x0 : -9223372036854775808 ≤ x) (x1 : x ≤ 9223372036854775807) :
    Calls Ybad.prog 4 #[.int .i64 x] w fun e w' => ∃ a, e = .returned (.pointer (some a)) ∧ Below w.heap.size w w' := by
  by_cases h0 : x = 0
  · subst h0
    go_enter Ybad.func4, Ybad.ntmps4
    go_wp2
    go_ret
    refine ⟨_, rfl, ?_⟩
    exact (Below.refl _ _).alloc (Nat.le_refl _) _
  · have hb : (x == 0) = false := by simpa using h0
    by_cases hn : x < 0
    all_goals
      clear h0
      go_enter Ybad.func4, Ybad.ntmps4
      go_wp2
      go_ret
      first
        | (refine ⟨⟨_, rfl⟩, ?_⟩; exact ((Below.refl _ _).alloc (Nat.le_refl _) _).alloc (by simp) _)
        | (refine ⟨_, rfl, ?_⟩; exact ((Below.refl _ _).alloc (Nat.le_refl _) _).alloc (by simp) _)
        | exact ((Below.refl _ _).alloc (Nat.le_refl _) _).alloc (by simp) _

set_option maxHeartbeats 400000 in
theorem align_big (c d m n : Int) (p q : Option Addr) (w : World) (h : p.isSome = true ∨ q.isSome = true) :
    Calls Ybad.prog 5 #[.agg #[.int .i64 c, .pointer p, .int .i64 m], .agg #[.int .i64 d, .pointer q, .int .i64 n]] w fun e w' =>
      e = .returned (.tuple #[.int .i64 0, .int .i64 0, .int .i64 0, .bool false]) ∧ Below w.heap.size w w' := by
  cases p with
  | some a =>
    go_enter Ybad.func5, Ybad.ntmps5
    go_wp2
    exact bodyPost_ret (v := .tuple #[.int .i64 0, .int .i64 0, .int .i64 0, .bool false]) (by simp [results, Ybad.results5, go_sem]) rfl ⟨rfl, ((Below.refl _ _).alloc (Nat.le_refl _) _).alloc (by simp) _⟩
  | none =>
    cases q with
    | none => simp at h
    | some a =>
      go_enter Ybad.func5, Ybad.ntmps5
      go_wp2
      exact bodyPost_ret (v := .tuple #[.int .i64 0, .int .i64 0, .int .i64 0, .bool false]) (by simp [results, Ybad.results5, go_sem]) rfl ⟨rfl, ((Below.refl _ _).alloc (Nat.le_refl _) _).alloc (by simp) _⟩

theorem tab2 {w : World} (h : ∀ i, i < 19 → w.cell? ⟨0, i, none⟩ = some (.int .i64 (pw i))) (o1 o2 : Obj) : ∀ i, i < 19 → ((w.alloc o1).alloc o2).cell? ⟨0, i, none⟩ = some (.int .i64 (pw i)) :=
  fun i hi => cell_later (((Below.refl _ _).alloc (Nat.le_refl _) _).alloc (by simp) _) (h i hi)

set_option maxHeartbeats 400000 in
theorem align_lt (c d m n : Int) (w : World) (c0 : -9223372036854775808 ≤ c) (c1 : c ≤ 9223372036854775807) (d0 : -9223372036854775808 ≤ d) (d1 : d ≤ 9223372036854775807)
    (m0 : 0 ≤ m) (m1 : m ≤ 65535) (n0 : 0 ≤ n) (n1 : n ≤ 65535) (hlt : m < n) (htab : ∀ i, i < 19 → w.cell? ⟨0, i, none⟩ = some (.int .i64 (pw i))) :
    Calls Ybad.prog 5 #[.agg #[.int .i64 c, .pointer none, .int .i64 m], .agg #[.int .i64 d, .pointer none, .int .i64 n]] w fun e w' =>
      e = .returned (.tuple #[.int .i64 (sv c (pz (n - m))), .int .i64 (sv d (pz 0)), .int .i64 n, .bool (sb c (pz (n - m)) && sb d (pz 0))]) ∧ Below w.heap.size w w' := by
  have HT : Hid (∀ i, i < 19 → w.cell? ⟨0, i, none⟩ = some (.int .i64 (pw i))) := htab
  clear htab
  go_enter Ybad.func5, Ybad.ntmps5
  go_wp2_with fail
  refine (scale_int c _ _ c0 c1 (by omega) (by omega) (by exact tab2 HT.out _ _)).mono ?_
  rintro e w1 ⟨rfl, rfl⟩
  go_wp2_with fail
  refine (scale_int d _ _ d0 d1 (by omega) (by omega) (by exact tab2 HT.out _ _)).mono ?_
  rintro e w2 ⟨rfl, rfl⟩
  obtain ⟨A, hA⟩ : ∃ A, sb c (pz (n - m)) = A := ⟨_, rfl⟩
  obtain ⟨B, hB⟩ : ∃ B, sb d (pz 0) = B := ⟨_, rfl⟩
  rw [hA, hB]
  have HA : Hid (sb c (pz (n - m)) = A) := hA
  have HB : Hid (sb d (pz 0) = B) := hB
  clear hA hB
  cases A
  all_goals
    go_wp2
    refine bodyPost_ret (v := .tuple #[.int .i64 (sv c (pz (n - m))), .int .i64 (sv d (pz 0)), .int .i64 n, .bool (sb c (pz (n - m)) && sb d (pz 0))]) (by rw [HA.out, HB.out]; simp [results, Ybad.results5, go_sem]) rfl ⟨rfl, ?_⟩
    exact ((Below.refl _ _).alloc (Nat.le_refl _) _).alloc (by simp) _

set_option maxHeartbeats 400000 in
theorem align_gt (c d m n : Int) (w : World) (c0 : -9223372036854775808 ≤ c) (c1 : c ≤ 9223372036854775807) (d0 : -9223372036854775808 ≤ d) (d1 : d ≤ 9223372036854775807)
    (m0 : 0 ≤ m) (m1 : m ≤ 65535) (n0 : 0 ≤ n) (n1 : n ≤ 65535) (hlt : n < m) (htab : ∀ i, i < 19 → w.cell? ⟨0, i, none⟩ = some (.int .i64 (pw i))) :
    Calls Ybad.prog 5 #[.agg #[.int .i64 c, .pointer none, .int .i64 m], .agg #[.int .i64 d, .pointer none, .int .i64 n]] w fun e w' =>
      e = .returned (.tuple #[.int .i64 (sv c (pz 0)), .int .i64 (sv d (pz (m - n))), .int .i64 m, .bool (sb c (pz 0) && sb d (pz (m - n)))]) ∧ Below w.heap.size w w' := by
  have HT : Hid (∀ i, i < 19 → w.cell? ⟨0, i, none⟩ = some (.int .i64 (pw i))) := htab
  clear htab
  go_enter Ybad.func5, Ybad.ntmps5
  go_wp2_with fail
  refine (scale_int c _ _ c0 c1 (by omega) (by omega) (by exact tab2 HT.out _ _)).mono ?_
  rintro e w1 ⟨rfl, rfl⟩
  go_wp2_with fail
  refine (scale_int d _ _ d0 d1 (by omega) (by omega) (by exact tab2 HT.out _ _)).mono ?_
  rintro e w2 ⟨rfl, rfl⟩
  obtain ⟨A, hA⟩ : ∃ A, sb c (pz 0) = A := ⟨_, rfl⟩
  obtain ⟨B, hB⟩ : ∃ B, sb d (pz (m - n)) = B := ⟨_, rfl⟩
  rw [hA, hB]
  have HA : Hid (sb c (pz 0) = A) := hA
  have HB : Hid (sb d (pz (m - n)) = B) := hB
  clear hA hB
  cases A
  all_goals
    go_wp2
    refine bodyPost_ret (v := .tuple #[.int .i64 (sv c (pz 0)), .int .i64 (sv d (pz (m - n))), .int .i64 m, .bool (sb c (pz 0) && sb d (pz (m - n)))]) (by rw [HA.out, HB.out]; simp [results, Ybad.results5, go_sem]) rfl ⟨rfl, ?_⟩
    exact ((Below.refl _ _).alloc (Nat.le_refl _) _).alloc (by simp) _

set_option maxHeartbeats 400000 in
theorem align_eq (c d m : Int) (w : World) (c0 : -9223372036854775808 ≤ c) (c1 : c ≤ 9223372036854775807) (d0 : -9223372036854775808 ≤ d) (d1 : d ≤ 9223372036854775807)
    (_m0 : 0 ≤ m) (_m1 : m ≤ 65535) (htab : ∀ i, i < 19 → w.cell? ⟨0, i, none⟩ = some (.int .i64 (pw i))) :
    Calls Ybad.prog 5 #[.agg #[.int .i64 c, .pointer none, .int .i64 m], .agg #[.int .i64 d, .pointer none, .int .i64 m]] w fun e w' =>
      e = .returned (.tuple #[.int .i64 (sv c (pz 0)), .int .i64 (sv d (pz 0)), .int .i64 m, .bool (sb c (pz 0) && sb d (pz 0))]) ∧ Below w.heap.size w w' := by
  have HT : Hid (∀ i, i < 19 → w.cell? ⟨0, i, none⟩ = some (.int .i64 (pw i))) := htab
  clear htab
  go_enter Ybad.func5, Ybad.ntmps5
  go_wp2_with fail
  refine (scale_int c _ _ c0 c1 (by omega) (by omega) (by exact tab2 HT.out _ _)).mono ?_
  rintro e w1 ⟨rfl, rfl⟩
  go_wp2_with fail
  refine (scale_int d _ _ d0 d1 (by omega) (by omega) (by exact tab2 HT.out _ _)).mono ?_
  rintro e w2 ⟨rfl, rfl⟩
  obtain ⟨A, hA⟩ : ∃ A, sb c (pz 0) = A := ⟨_, rfl⟩
  obtain ⟨B, hB⟩ : ∃ B, sb d (pz 0) = B := ⟨_, rfl⟩
  rw [hA, hB]
  have HA : Hid (sb c (pz 0) = A) := hA
  have HB : Hid (sb d (pz 0) = B) := hB
  clear hA hB
  cases A
  all_goals
    go_wp2
    refine bodyPost_ret (v := .tuple #[.int .i64 (sv c (pz 0)), .int .i64 (sv d (pz 0)), .int .i64 m, .bool (sb c (pz 0) && sb d (pz 0))]) (by rw [HA.out, HB.out]; simp [results, Ybad.results5, go_sem]) rfl ⟨rfl, ?_⟩
    exact ((Below.refl _ _).alloc (Nat.le_refl _) _).alloc (by simp) _
end Go.Proofs.YbulkdlygDoor.lawC
