/- LawS5648CWhole: the contract of 'mul64' at a power of ten, by the shelf's contract of bits.Mul64. -/
import Derived.Test.YbulkdlygDoorRows
import Derived.Test.YbulkdlygDoorShelf
import Derived.WalkKit
import Derived.WalkSpells
import Derived.WalkLawsBesides
namespace Go.Proofs.YbulkdlygDoor.lawC
open Go.RowKit

theorem mul_small (x y z : Int) (w : World) (hx : 0 ≤ x) (hy : 0 ≤ y) (hx1 : x < 18446744073709551616) (hy1 : y < 18446744073709551616) (hz : x * y = z) (hz1 : z ≤ 9223372036854775807) :
    Calls Ybad.prog 15 #[.int .u64 x, .int .u64 y] w fun e w' => e = .returned (.tuple #[.int .u64 0, .int .u64 z]) ∧ w' = w := by
  obtain ⟨a, rfl⟩ := Int.eq_ofNat_of_zero_le hx
  obtain ⟨b, rfl⟩ := Int.eq_ofNat_of_zero_le hy
  have hz0 : ((a * b : Nat) : Int) = z := by rw [← hz]; simp
  refine (Ybad.bits_Mul64 a b (by omega) (by omega) w).mono ?_
  rintro e w' ⟨rfl, rfl⟩
  rw [show a * b / 18446744073709551616 = 0 by omega, show a * b % 18446744073709551616 = a * b by omega, hz0]
  exact ⟨rfl, rfl⟩

theorem mul_large (x y z : Int) (w : World) (hx : 0 ≤ x) (hy : 0 ≤ y) (hx1 : x < 18446744073709551616) (hy1 : y < 18446744073709551616) (hz : x * y = z) (hz1 : 9223372036854775807 < z) :
    Calls Ybad.prog 15 #[.int .u64 x, .int .u64 y] w fun e w' => ∃ h l : Int, e = .returned (.tuple #[.int .u64 h, .int .u64 l]) ∧ (h = 0 → 9223372036854775807 < l) ∧ w' = w := by
  obtain ⟨a, rfl⟩ := Int.eq_ofNat_of_zero_le hx
  obtain ⟨b, rfl⟩ := Int.eq_ofNat_of_zero_le hy
  have hz0 : ((a * b : Nat) : Int) = z := by rw [← hz]; simp
  refine (Ybad.bits_Mul64 a b (by omega) (by omega) w).mono ?_
  rintro e w' ⟨rfl, rfl⟩
  exact ⟨_, _, rfl, by omega, rfl⟩

/-- what 'c x 10^n' comes to: the product, or nothing where it lies outside the range -/
def sv (c p : Int) : Int := if -9223372036854775807 ≤ c * p ∧ c * p ≤ 9223372036854775807 then c * p else 0
def sb (c p : Int) : Bool := decide (-9223372036854775807 ≤ c * p ∧ c * p ≤ 9223372036854775807)

theorem sv_in {c p : Int} (h0 : -9223372036854775807 ≤ c * p) (h1 : c * p ≤ 9223372036854775807) : sv c p = c * p ∧ sb c p = true := by
  simp [sv, sb, h0, h1]
theorem sv_out {c p : Int} (h : ¬ (-9223372036854775807 ≤ c * p ∧ c * p ≤ 9223372036854775807)) : sv c p = 0 ∧ sb c p = false := by
  unfold sv sb
  exact ⟨if_neg h, decide_eq_false h⟩

theorem ret_two {a b : Int} {p q : Bool} (h : a = b) (h2 : p = q) : Ending.returned (.tuple #[.int .i64 a, .bool p]) = .returned (.tuple #[.int .i64 b, .bool q]) := by rw [h, h2]

set_option maxHeartbeats 400000 in
theorem mul_any (c p : Int) (w : World) (c0 : -9223372036854775808 ≤ c) (c1 : c ≤ 9223372036854775807) (p0 : 1 ≤ p) (p1 : p ≤ 1000000000000000000) :
    Calls Ybad.prog 14 #[.int .i64 c, .int .i64 p] w fun e w' => e = .returned (.tuple #[.int .i64 (sv c p), .bool (sb c p)]) ∧ w' = w := by
  obtain ⟨z, hz⟩ : ∃ z, c * p = z := ⟨_, rfl⟩
  have dp : decide (p < 0) = false := decide_eq_false (by omega)
  by_cases hc : 0 ≤ c
  · have dc : decide (c < 0) = false := decide_eq_false (by omega)
    have hz0 : 0 ≤ z := by rw [← hz]; exact Int.mul_nonneg hc (by omega)
    by_cases hin : z ≤ 9223372036854775807
    · obtain ⟨e1, e2⟩ := sv_in (c := c) (p := p) (by rw [hz]; omega) (by rw [hz]; omega)
      have HZ : Hid (c * p = z) := hz
      have E1 : Hid (sv c p = c * p) := e1
      have E2 : Hid (sb c p = true) := e2
      clear hz e1 e2
      go_enter Ybad.func14, Ybad.ntmps14
      go_wp2_with fail
      refine (mul_small c p z _ hc (by omega) (by omega) (by omega) HZ.out hin).mono ?_
      rintro e w' ⟨rfl, rfl⟩
      go_wp2
      go_ret2
      exact ⟨ret_two (by rw [E1.out, HZ.out]) E2.out.symm, rfl⟩
    · obtain ⟨e1, e2⟩ := sv_out (c := c) (p := p) (by rw [hz]; omega)
      have HZ : Hid (c * p = z) := hz
      have E1 : Hid (sv c p = 0) := e1
      have E2 : Hid (sb c p = false) := e2
      clear hz e1 e2
      go_enter Ybad.func14, Ybad.ntmps14
      go_wp2_with fail
      refine (mul_large c p z _ hc (by omega) (by omega) (by omega) HZ.out (by omega)).mono ?_
      rintro e w' ⟨h, l, rfl, hhl, rfl⟩
      by_cases hh : h = 0
      · have hl := hhl hh
        subst hh
        clear hhl
        go_wp2
        go_ret2
        exact ⟨ret_two E1.out.symm E2.out.symm, rfl⟩
      · have hb : (h != 0) = true := by simpa using hh
        clear hhl hh
        go_wp2
        go_ret2
        exact ⟨ret_two E1.out.symm E2.out.symm, rfl⟩
  · by_cases hmin : c = -9223372036854775808
    · subst hmin
      have hz2 : 9223372036854775808 * p = -z := by omega
      obtain ⟨e1, e2⟩ := sv_out (c := -9223372036854775808) (p := p) (by omega)
      have HZ : Hid (9223372036854775808 * p = -z) := hz2
      have HZ1 : Hid (9223372036854775807 < -z) := by show _ < _; omega
      have E1 : Hid (sv (-9223372036854775808) p = 0) := e1
      have E2 : Hid (sb (-9223372036854775808) p = false) := e2
      have W1 : IntKind.u64.wrap (wrap64 9223372036854775808) = 9223372036854775808 := by decide +kernel
      have W2 : IntKind.u64.wrap (-9223372036854775808) = 9223372036854775808 := by decide +kernel
      have HW1 : Hid (IntKind.u64.wrap (wrap64 9223372036854775808) = 9223372036854775808) := W1
      have HW2 : Hid (IntKind.u64.wrap (-9223372036854775808) = 9223372036854775808) := W2
      clear hz e1 e2 hz2 W1 W2
      go_enter Ybad.func14, Ybad.ntmps14
      go_wp2_with fail
      all_goals
        first | rw [HW1.out] | rw [HW2.out]
        refine (mul_large 9223372036854775808 p (-z) _ (by omega) (by omega) (by omega) (by omega) HZ.out HZ1.out).mono ?_
        rintro e w' ⟨h, l, rfl, hhl, rfl⟩
        by_cases hh : h = 0
        · have hl := hhl hh
          subst hh
          clear hhl
          go_wp2
          go_ret2
          exact ⟨ret_two E1.out.symm E2.out.symm, rfl⟩
        · have hb : (h != 0) = true := by simpa using hh
          clear hhl hh
          go_wp2
          go_ret2
          exact ⟨ret_two E1.out.symm E2.out.symm, rfl⟩
    · have hz0 : -c * p = -z := by rw [← hz, Int.neg_mul]
      have hz1 : 0 ≤ -z := by rw [← hz0]; exact Int.mul_nonneg (by omega) (by omega)
      by_cases hin : -z ≤ 9223372036854775807
      · obtain ⟨e1, e2⟩ := sv_in (c := c) (p := p) (by rw [hz]; omega) (by rw [hz]; omega)
        have HZ : Hid (-c * p = -z) := hz0
        have HZ2 : Hid (c * p = z) := hz
        have E1 : Hid (sv c p = c * p) := e1
        have E2 : Hid (sb c p = true) := e2
        clear hz e1 e2 hz0
        go_enter Ybad.func14, Ybad.ntmps14
        go_wp2_with fail
        refine (mul_small (-c) p (-z) _ (by omega) (by omega) (by omega) (by omega) HZ.out hin).mono ?_
        rintro e w' ⟨rfl, rfl⟩
        go_wp2
        go_ret2
        exact ⟨ret_two (by rw [E1.out, HZ2.out]) E2.out.symm, rfl⟩
      · obtain ⟨e1, e2⟩ := sv_out (c := c) (p := p) (by rw [hz]; omega)
        have HZ : Hid (-c * p = -z) := hz0
        have E1 : Hid (sv c p = 0) := e1
        have E2 : Hid (sb c p = false) := e2
        clear hz e1 e2 hz0
        go_enter Ybad.func14, Ybad.ntmps14
        go_wp2_with fail
        refine (mul_large (-c) p (-z) _ (by omega) (by omega) (by omega) (by omega) HZ.out (by omega)).mono ?_
        rintro e w' ⟨h, l, rfl, hhl, rfl⟩
        by_cases hh : h = 0
        · have hl := hhl hh
          subst hh
          clear hhl
          go_wp2
          go_ret2
          exact ⟨ret_two E1.out.symm E2.out.symm, rfl⟩
        · have hb : (h != 0) = true := by simpa using hh
          clear hhl hh
          go_wp2
          go_ret2
          exact ⟨ret_two E1.out.symm E2.out.symm, rfl⟩
end Go.Proofs.YbulkdlygDoor.lawC
