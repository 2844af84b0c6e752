/- LawS5648BWhole: the contracts of 'zzs5648bok' and 'add64', and the law's walk. -/
import Derived.Test.YbulkdlygRows
import Derived.WalkKit
import Derived.WalkSpells
namespace Go.Proofs.Ybulkdlyg.lawB
open Go.RowKit

/-- the true sum lies within the range -/
def fits (a b : Int) : Bool := decide (-9223372036854775807 ≤ a + b ∧ a + b ≤ 9223372036854775807)

theorem ret_bool {p q : Bool} (h : p = q) : Ending.returned (.bool p) = .returned (.bool q) := by rw [h]
theorem ret_pair {n : Int} {p q : Bool} (h : p = q) : Ending.returned (.tuple #[.int .i64 n, .bool p]) = .returned (.tuple #[.int .i64 n, .bool q]) := by rw [h]

theorem dec_fits {a b : Int} {p : Prop} [Decidable p] (h : p ↔ (-9223372036854775807 ≤ a + b ∧ a + b ≤ 9223372036854775807)) : decide p = fits a b := by
  unfold fits
  exact decide_eq_decide.2 h
theorem fits_no {a b : Int} (h : ¬ (-9223372036854775807 ≤ a + b ∧ a + b ≤ 9223372036854775807)) : false = fits a b := by
  unfold fits
  exact (decide_eq_false h).symm
theorem fits_yes {a b : Int} (h : -9223372036854775807 ≤ a + b ∧ a + b ≤ 9223372036854775807) : true = fits a b := by
  unfold fits
  exact (decide_eq_true h).symm

set_option maxHeartbeats 400000 in
theorem ok_any (a b : Int) (w : World) (a0 : -9223372036854775808 ≤ a) (a1 : a ≤ 9223372036854775807) (b0 : -9223372036854775808 ≤ b) (b1 : b ≤ 9223372036854775807) :
    Calls Yba.prog 4 #[.int .i64 a, .int .i64 b] w fun e w' => e = .returned (.bool (fits a b)) ∧ w' = w := by
  by_cases hb : 0 ≤ b
  · by_cases h1 : 9223372036854775807 - b < a
    · have F : Hid (false = fits a b) := fits_no (by omega)
      go_enter Yba.func4, Yba.ntmps4
      go_wp2
      go_ret
      exact ⟨ret_bool F.out, rfl⟩
    · by_cases h2 : b = 0
      · subst h2
        have F : Hid ((!(a == -9223372036854775808)) = fits a 0) := by
          by_cases h3 : a = -9223372036854775808
          · subst h3; exact fits_no (by omega)
          · have : (a == -9223372036854775808) = false := by simpa using h3
            rw [show (!(a == -9223372036854775808)) = true by rw [this]; rfl]
            exact fits_yes (by omega)
        go_enter Yba.func4, Yba.ntmps4
        go_wp2
        go_ret
        exact ⟨ret_bool F.out, rfl⟩
      · have F : Hid (true = fits a b) := fits_yes (by omega)
        go_enter Yba.func4, Yba.ntmps4
        go_wp2
        go_ret
        exact ⟨ret_bool F.out, rfl⟩
  · have F : Hid (decide (-(9223372036854775807 + b) ≤ a) = fits a b) := dec_fits (by omega)
    go_enter Yba.func4, Yba.ntmps4
    go_wp2
    go_ret
    exact ⟨ret_bool F.out, rfl⟩

theorem add_same {a b : Int} (a0 : -9223372036854775808 ≤ a) (a1 : a ≤ 9223372036854775807) (b0 : -9223372036854775808 ≤ b) (b1 : b ≤ 9223372036854775807)
    (_h : 0 ≤ a ↔ 0 ≤ b) (h2 : 0 ≤ wrap64 (a + b) ↔ 0 ≤ b) : decide (-9223372036854775807 ≤ wrap64 (a + b)) = fits a b := by
  refine dec_fits ?_
  unfold wrap64 at *
  omega
theorem add_wrap {a b : Int} (a0 : -9223372036854775808 ≤ a) (a1 : a ≤ 9223372036854775807) (b0 : -9223372036854775808 ≤ b) (b1 : b ≤ 9223372036854775807)
    (h : 0 ≤ a ↔ 0 ≤ b) (h2 : ¬ (0 ≤ wrap64 (a + b) ↔ 0 ≤ b)) : false = fits a b := by
  refine fits_no ?_
  unfold wrap64 at *
  omega
theorem add_other {a b : Int} (a0 : -9223372036854775808 ≤ a) (a1 : a ≤ 9223372036854775807) (b0 : -9223372036854775808 ≤ b) (b1 : b ≤ 9223372036854775807)
    (h : ¬ (0 ≤ a ↔ 0 ≤ b)) : decide (-9223372036854775807 ≤ wrap64 (a + b)) = fits a b := by
  refine dec_fits ?_
  unfold wrap64 at *
  omega

set_option maxHeartbeats 400000 in
theorem add_any (a b : Int) (w : World) (a0 : -9223372036854775808 ≤ a) (a1 : a ≤ 9223372036854775807) (b0 : -9223372036854775808 ≤ b) (b1 : b ≤ 9223372036854775807) :
    Calls Yba.prog 5 #[.int .i64 a, .int .i64 b] w fun e w' => e = .returned (.tuple #[.int .i64 (wrap64 (a + b)), .bool (fits a b)]) ∧ w' = w := by
  go_enter Yba.func5, Yba.ntmps5
  go_wp2
  · go_ret2
    exact ⟨ret_pair (add_same a0 a1 b0 b1 ‹_› ‹_›), rfl⟩
  · go_ret2
    exact ⟨ret_pair (add_wrap a0 a1 b0 b1 ‹_› ‹_›), rfl⟩
  · go_ret2
    exact ⟨ret_pair (add_other a0 a1 b0 b1 ‹_›), rfl⟩

theorem wrap_eq (a b : Int) : wrap64 (a + b) = wrap64 (IntKind.u64.wrap (IntKind.u64.wrap a + IntKind.u64.wrap b)) := by
  have e : ∀ x, IntKind.u64.wrap x = x % 18446744073709551616 := fun x => by simp [IntKind.wrap, IntKind.bits, IntKind.signed]
  rw [e, e, e]
  unfold wrap64
  omega

set_option maxHeartbeats 400000 in
theorem law_any (a b : Int) (w : World) (a0 : -9223372036854775808 ≤ a) (a1 : a ≤ 9223372036854775807) (b0 : -9223372036854775808 ≤ b) (b1 : b ≤ 9223372036854775807) :
    Calls Yba.prog 3 #[.int .i64 a, .int .i64 b] w fun e w' => e = .returned (.bool true) ∧ w' = w := by
  go_enter Yba.func3, Yba.ntmps3
  go_wp2_with fail
  refine (ok_any a b w a0 a1 b0 b1).mono ?_
  rintro e w' ⟨rfl, rfl⟩
  go_wp2_with fail
  refine (add_any a b _ a0 a1 b0 b1).mono ?_
  rintro e w'' ⟨rfl, rfl⟩
  go_wp2_with fail
  · go_ret
    exact ⟨rfl, rfl⟩
  · exact absurd (wrap_eq a b) ‹_›
end Go.Proofs.Ybulkdlyg.lawB
