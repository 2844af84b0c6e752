/- LawS5648CWhole: the contracts of 'scale' and of its model 'zzs5648cscale': both compute (sv c 10^n, sb c 10^n). -/
import Derived.Test.YbulkdlygDoorCMul
namespace Go.Proofs.YbulkdlygDoor.lawC
open Go.RowKit

/-- 10^n -/
def pw (n : Nat) : Int := ((10 ^ n : Nat) : Int)
theorem pw_zero : pw 0 = 1 := rfl
theorem pw_succ (n : Nat) : pw (n + 1) = pw n * 10 := by simp [pw, Nat.pow_succ]
theorem pw_pos (n : Nat) : 1 ≤ pw n := by
  have : 0 < 10 ^ n := Nat.pow_pos (by decide)
  unfold pw; omega
theorem pw_mono {i n : Nat} (h : i ≤ n) : pw i ≤ pw n := by
  have : 10 ^ i ≤ 10 ^ n := Nat.pow_le_pow_right (by decide) h
  unfold pw; omega
theorem pw_18 : pw 18 = 1000000000000000000 := by simp [pw]
theorem pw_19 : pw 19 = 10000000000000000000 := by simp [pw]
theorem mul_mono {d : Int} (hd : 0 ≤ d) {i n : Nat} (h : i ≤ n) : d * pw i ≤ d * pw n := Int.mul_le_mul_of_nonneg_left (pw_mono h) hd

theorem sv_zero (p : Int) : sv 0 p = 0 ∧ sb 0 p = true := by
  have := sv_in (c := 0) (p := p) (by omega) (by omega)
  simpa using this

/-- beyond 10^18 nothing but 0 is left -/
theorem sv_far {c : Int} (hc : c ≠ 0) {n : Nat} (hn : 19 ≤ n) : sv c (pw n) = 0 ∧ sb c (pw n) = false := by
  refine sv_out ?_
  have h19 := pw_mono hn
  rw [pw_19] at h19
  rcases Int.lt_or_lt_of_ne hc with h | h
  · have : 1 * pw n ≤ -c * pw n := Int.mul_le_mul_of_nonneg_right (by omega) (by omega)
    rw [Int.neg_mul] at this
    omega
  · have : 1 * pw n ≤ c * pw n := Int.mul_le_mul_of_nonneg_right (by omega) (by omega)
    omega

set_option maxHeartbeats 400000 in
theorem scale_any (c : Int) (n : Nat) (w : World) (c0 : -9223372036854775808 ≤ c) (c1 : c ≤ 9223372036854775807) (hn : n ≤ 65535)
    (htab : ∀ i, i < 19 → w.cell? ⟨0, i, none⟩ = some (.int .i64 (pw i))) :
    Calls Ybad.prog 13 #[.int .i64 c, .int .i64 n] w fun e w' => e = .returned (.tuple #[.int .i64 (sv c (pw n)), .bool (sb c (pw n))]) ∧ w' = w := by
  by_cases hc : c = 0
  · subst hc
    obtain ⟨e1, e2⟩ := sv_zero (pw n)
    have E1 : Hid (sv 0 (pw n) = 0) := e1
    have E2 : Hid (sb 0 (pw n) = true) := e2
    clear e1 e2 htab
    go_enter Ybad.func13, Ybad.ntmps13
    go_wp2
    go_ret2
    exact ⟨ret_two E1.out.symm E2.out.symm, rfl⟩
  · have hb : (c == 0) = false := by simpa using hc
    by_cases hn2 : 19 ≤ n
    · obtain ⟨e1, e2⟩ := sv_far hc hn2
      have E1 : Hid (sv c (pw n) = 0) := e1
      have E2 : Hid (sb c (pw n) = false) := e2
      clear e1 e2 htab
      go_enter Ybad.func13, Ybad.ntmps13
      go_wp2
      go_ret2
      exact ⟨ret_two E1.out.symm E2.out.symm, rfl⟩
    · have ht := htab n (by omega)
      have q1 := pw_pos n
      have q2 := pw_mono (show n ≤ 18 by omega)
      rw [pw_18] at q2
      clear htab hc
      go_enter Ybad.func13, Ybad.ntmps13
      go_wp2_with fail
      refine (mul_any c (pw n) _ c0 c1 q1 q2).mono ?_
      rintro e w' ⟨rfl, rfl⟩
      go_wp2
      go_ret2
      exact ⟨rfl, rfl⟩

/-- what the model's loop comes to -/
theorem sv_end_in {c d : Int} {n : Nat} (hd : 0 ≤ d) (h : d * pw n ≤ 9223372036854775807) (hc : c = d ∨ c = -d) : sv c (pw n) = (if c < 0 then -(d * pw n) else d * pw n) ∧ sb c (pw n) = true := by
  have h0 : 0 ≤ d * pw n := Int.mul_nonneg hd (by have := pw_pos n; omega)
  rcases hc with rfl | rfl
  · have := sv_in (c := c) (p := pw n) (by omega) h
    rw [if_neg (by omega)]
    exact this
  · have hm : -d * pw n = -(d * pw n) := Int.neg_mul _ _
    have := sv_in (c := -d) (p := pw n) (by omega) (by omega)
    rw [hm] at this
    by_cases hz : d = 0
    · subst hz
      simp at *
      exact this
    · rw [if_pos (by omega)]
      exact this
theorem sv_end_out {c d : Int} {n : Nat} (h : 9223372036854775807 < d * pw n) (hc : c = d ∨ c = -d) : sv c (pw n) = 0 ∧ sb c (pw n) = false := by
  refine sv_out ?_
  rcases hc with rfl | rfl
  · omega
  · rw [Int.neg_mul]; omega

set_option maxHeartbeats 800000 in
theorem model_any (c : Int) (n : Nat) (w : World) (c0 : -9223372036854775808 ≤ c) (c1 : c ≤ 9223372036854775807) (hn : n ≤ 65535) :
    Calls Ybad.prog 6 #[.int .i64 c, .int .i64 n] w fun e w' => e = .returned (.tuple #[.int .i64 (sv c (pw n)), .bool (sb c (pw n))]) ∧ w' = w := by
  by_cases hc : c = 0
  · subst hc
    obtain ⟨e1, e2⟩ := sv_zero (pw n)
    have E1 : Hid (sv 0 (pw n) = 0) := e1
    have E2 : Hid (sb 0 (pw n) = true) := e2
    clear e1 e2
    go_enter Ybad.func6, Ybad.ntmps6
    go_wp2
    go_ret2
    exact ⟨ret_two E1.out.symm E2.out.symm, rfl⟩
  · have hb : (c == 0) = false := by simpa using hc
    by_cases hmin : c = -9223372036854775808
    · subst hmin
      have hq := pw_pos n
      obtain ⟨e1, e2⟩ := sv_end_out (c := -9223372036854775808) (d := 9223372036854775808) (n := n) (by omega) (.inr rfl)
      have E1 : Hid (sv (-9223372036854775808) (pw n) = 0) := e1
      have E2 : Hid (sb (-9223372036854775808) (pw n) = false) := e2
      clear e1 e2 hq hb
      go_enter Ybad.func6, Ybad.ntmps6
      go_wp2
      go_ret2
      exact ⟨ret_two E1.out.symm E2.out.symm, rfl⟩
    · have hb2 : (c == -9223372036854775808) = false := by simpa using hmin
      by_cases hneg : c < 0
      · have HC : Hid (c = -c ∨ c = -(-c)) := .inr (by omega)
        clear hc
        go_enter Ybad.func6, Ybad.ntmps6
        go_wp2
        go_loop [7, 8] (fun m i => ∃ (k : Nat) (x : Int), k ≤ n ∧ i = .int .i64 k ∧ m = .int .i64 x ∧ 0 ≤ x ∧ x ≤ 9223372036854775807 ∧ Hid (x = (-c) * pw k)) (fun _ i => n - (intOf i).toNat)
        case atStart => exact ⟨0, -c, Nat.zero_le _, rfl, rfl, by omega, by omega, by show _ = _; rw [pw_zero]; omega⟩
        case round =>
          obtain ⟨k, x, hk, rfl, rfl, x0, x1, HX⟩ := hrel
          by_cases hlt : k < n
          · by_cases hbig : 922337203685477580 < x
            · obtain ⟨e1, e2⟩ := sv_end_out (c := c) (d := -c) (n := n) (by
                have h1 := mul_mono (d := -c) (by omega) (show k + 1 ≤ n by omega)
                rw [pw_succ, ← Int.mul_assoc, ← HX.out] at h1
                omega) HC.out
              have E1 : Hid (sv c (pw n) = 0) := e1
              have E2 : Hid (sb c (pw n) = false) := e2
              clear e1 e2
              go_wp2
              go_ret2
              exact ⟨ret_two E1.out.symm E2.out.symm, rfl⟩
            · go_wp2
              go_round
              case rel => exact ⟨k + 1, x * 10, by omega, by go_num, rfl, by omega, by omega, by show _ = _; rw [pw_succ, ← Int.mul_assoc, ← HX.out]⟩
              case measure => simp [intOf]; omega
          · obtain rfl : k = n := by omega
            obtain ⟨e1, e2⟩ := sv_end_in (c := c) (d := -c) (n := k) (by omega) (by rw [← HX.out]; omega) HC.out
            rw [if_pos hneg, ← HX.out] at e1
            have E1 : Hid (sv c (pw k) = -x) := e1
            have E2 : Hid (sb c (pw k) = true) := e2
            clear e1 e2
            go_wp2
            go_ret2
            exact ⟨ret_two E1.out.symm E2.out.symm, rfl⟩
      · clear hc
        go_enter Ybad.func6, Ybad.ntmps6
        go_wp2
        go_loop [7, 8] (fun m i => ∃ (k : Nat) (x : Int), k ≤ n ∧ i = .int .i64 k ∧ m = .int .i64 x ∧ 0 ≤ x ∧ x ≤ 9223372036854775807 ∧ Hid (x = (c) * pw k)) (fun _ i => n - (intOf i).toNat)
        case atStart => exact ⟨0, c, Nat.zero_le _, rfl, rfl, by omega, by omega, by show _ = _; rw [pw_zero]; omega⟩
        case round =>
          obtain ⟨k, x, hk, rfl, rfl, x0, x1, HX⟩ := hrel
          by_cases hlt : k < n
          · by_cases hbig : 922337203685477580 < x
            · obtain ⟨e1, e2⟩ := sv_end_out (c := c) (d := c) (n := n) (by
                have h1 := mul_mono (d := c) (by omega) (show k + 1 ≤ n by omega)
                rw [pw_succ, ← Int.mul_assoc, ← HX.out] at h1
                omega) (.inl rfl)
              have E1 : Hid (sv c (pw n) = 0) := e1
              have E2 : Hid (sb c (pw n) = false) := e2
              clear e1 e2
              go_wp2
              go_ret2
              exact ⟨ret_two E1.out.symm E2.out.symm, rfl⟩
            · go_wp2
              go_round
              case rel => exact ⟨k + 1, x * 10, by omega, by go_num, rfl, by omega, by omega, by show _ = _; rw [pw_succ, ← Int.mul_assoc, ← HX.out]⟩
              case measure => simp [intOf]; omega
          · obtain rfl : k = n := by omega
            obtain ⟨e1, e2⟩ := sv_end_in (c := c) (d := c) (n := k) (by omega) (by rw [← HX.out]; omega) (.inl rfl)
            rw [if_neg (by omega), ← HX.out] at e1
            have E1 : Hid (sv c (pw k) = x) := e1
            have E2 : Hid (sb c (pw k) = true) := e2
            clear e1 e2
            go_wp2
            go_ret2
            exact ⟨ret_two E1.out.symm E2.out.symm, rfl⟩
end Go.Proofs.YbulkdlygDoor.lawC
