/- LawS5645AWhole: the contract of math/bits.Reverse16. -/
import Derived.Test.YbulkdlwqBits
import Derived.BigQuiet
import Derived.Deep.QuietTactic
import Derived.Lib.Tables
namespace Go.Proofs.Ybulkdlwq.huff
open Go.RowKit
set_option linter.unusedVariables false

theorem rv_split (b : Nat) : ∀ a c, rv (a + b) c = rv a (c % 2 ^ a) * 2 ^ b + rv b (c / 2 ^ a)
  | 0, c => by simp [rv]
  | a + 1, c => by
    rw [show a + 1 + b = (a + b) + 1 by omega, rv, rv, rv_split b a]
    have h1 : c % 2 ^ (a + 1) % 2 = c % 2 := by
      exact Nat.mod_mod_of_dvd _ (by simpa using Nat.pow_dvd_pow 2 (show 1 ≤ a + 1 by omega))
    have h2 : c % 2 ^ (a + 1) / 2 = c / 2 % 2 ^ a := by
      rw [Nat.pow_succ, Nat.mul_comm, Nat.mod_mul_right_div_self]
    have h3 : c / 2 / 2 ^ a = c / 2 ^ (a + 1) := by
      rw [Nat.div_div_eq_div_mul, Nat.pow_succ, Nat.mul_comm]
    rw [h1, h2, h3, Nat.add_mul, Nat.add_assoc, Nat.pow_add, Nat.mul_assoc]
theorem rv16 (x : Nat) : rv 16 x = rv 8 (x % 256) * 256 + rv 8 (x / 256) := rv_split 8 8 x

theorem below_drewN {B : Nat} {a w : World} (h : Below B a w) : ∀ n, Below B a (w.drewN n)
  | 0 => h
  | n + 1 => (below_drewN h n).drew
set_option maxRecDepth 100000 in
theorem fold_tab : (⟨(((([0, 128, 64, 192, 32, 160, 96, 224, 16, 144, 80, 208, 48, 176, 112, 240, 8, 136, 72, 200, 40, 168, 104, 232, 24, 152, 88, 216, 56, 184, 120, 248, 4, 132, 68, 196, 36, 164, 100, 228, 20, 148, 84, 212, 52, 180, 116, 244, 12, 140, 76, 204, 44, 172, 108, 236, 28, 156, 92, 220, 60, 188, 124, 252] : List UInt8).append ([2, 130, 66, 194, 34, 162, 98, 226, 18, 146, 82, 210, 50, 178, 114, 242, 10, 138, 74, 202, 42, 170, 106, 234, 26, 154, 90, 218, 58, 186, 122, 250, 6, 134, 70, 198, 38, 166, 102, 230, 22, 150, 86, 214, 54, 182, 118, 246, 14, 142, 78, 206, 46, 174, 110, 238, 30, 158, 94, 222, 62, 190, 126, 254] : List UInt8)).append (([1, 129, 65, 193, 33, 161, 97, 225, 17, 145, 81, 209, 49, 177, 113, 241, 9, 137, 73, 201, 41, 169, 105, 233, 25, 153, 89, 217, 57, 185, 121, 249, 5, 133, 69, 197, 37, 165, 101, 229, 21, 149, 85, 213, 53, 181, 117, 245, 13, 141, 77, 205, 45, 173, 109, 237, 29, 157, 93, 221, 61, 189, 125, 253] : List UInt8).append ([3, 131, 67, 195, 35, 163, 99, 227, 19, 147, 83, 211, 51, 179, 115, 243, 11, 139, 75, 203, 43, 171, 107, 235, 27, 155, 91, 219, 59, 187, 123, 251, 7, 135, 71, 199, 39, 167, 103, 231, 23, 151, 87, 215, 55, 183, 119, 247, 15, 143, 79, 207, 47, 175, 111, 239, 31, 159, 95, 223, 63, 191, 127, 255] : List UInt8)))).toArray⟩ : ByteArray) = Lib.rev8tab := rfl

theorem rev8_eq (i : Nat) (h : i < 256) : Lib.rev8 (i : Int) = ((rv 8 i : Nat) : Int) := by
  have : ∀ j : Fin 256, Lib.rev8 ((j : Nat) : Int) = ((rv 8 (j : Nat) : Nat) : Int) := by decide +kernel
  exact this ⟨i, h⟩

set_option maxRecDepth 100000 in
theorem rev_any (x : Nat) (w : World) (hx : x < 65536) : Calls Yba.prog 11 #[.int .u16 (x : Nat)] w fun e w' => e = .returned (.int .u16 (rv 16 x : Nat)) ∧ Below w.heap.size w w' := by
  have e1 : ((x : Nat) : Int) / 256 = ((x / 256 : Nat) : Int) := by omega
  have e2 : ((x : Nat) : Int) % 256 = ((x % 256 : Nat) : Int) := by omega
  have i1 : ∀ w, (Instr.index 9 (.string Lib.rev8tab) (.int .u16 ((x : Int) / 256))).run Yba.prog w = .ok (.int .u8 (rv 8 (x / 256) : Nat)) w := by
    intro w
    rw [Lib.run_index_rev8tab w 9 .u16 _ (by kernel_rfl) (by omega) (by omega), e1, rev8_eq _ (by omega)]
  have i2 : ∀ w, (Instr.index 9 (.string Lib.rev8tab) (.int .u16 ((x : Int) % 256))).run Yba.prog w = .ok (.int .u8 (rv 8 (x % 256) : Nat)) w := by
    intro w
    rw [Lib.run_index_rev8tab w 9 .u16 _ (by kernel_rfl) (by omega) (by omega), e2, rev8_eq _ (by omega)]
  have m1 := rv_lt 8 (x / 256)
  have m2 := rv_lt 8 (x % 256)
  have b1 : bits .and .u16 (x : Int) 255 = (x : Int) % 256 := by rw [show (255 : Int) = 2 ^ 8 - 1 by decide, mask_u16 8 (by omega) x hx]; omega
  have w1 := wr_u16 (rv 8 (x / 256)) (by omega)
  have w2 := wr_u16 (rv 8 (x % 256)) (by omega)
  have w3 : IntKind.u16.wrap (((rv 8 (x % 256) : Nat) : Int) * 256) = ((rv 8 (x % 256) * 256 : Nat) : Int) := by rw [show ((rv 8 (x % 256) : Nat) : Int) * 256 = ((rv 8 (x % 256) * 256 : Nat) : Int) by omega]; exact wr_u16 _ (by omega)
  have w4 := joinl_u16 8 (rv 8 (x % 256) * 256) (rv 8 (x / 256)) (by omega) m1 (by omega) (by omega)
  have HE := rv16 x
  obtain ⟨y, hy⟩ : ∃ y, y = rv 16 x := ⟨_, rfl⟩
  rw [← hy] at HE ⊢
  rw [← HE] at w4
  have c1 : ((rv 8 (x % 256) * 256 : Nat) : Int) = ((rv 8 (x % 256) : Nat) : Int) * 256 := by omega
  rw [c1] at w3 w4
  clear c1
  clear e1 e2 hy HE m1 m2
  go_enter Yba.func11, Yba.ntmps11
  go_wp2_with fail
  simp only [fold_tab]
  go_quiet (fail)
  go_wp2
  go_ret
  exact ⟨rfl, below_drewN (Below.refl _ _) _⟩
end Go.Proofs.Ybulkdlwq.huff
