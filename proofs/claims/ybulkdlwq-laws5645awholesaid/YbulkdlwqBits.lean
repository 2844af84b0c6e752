/- LawS5645AWhole: bits of unsigned numbers, as arithmetic. -/
import Derived.Test.YbulkdlwqMem
import Derived.Laws.BitsLemmas
import Derived.Lib.EndianBits
namespace Go.Proofs.Ybulkdlwq.huff
open Go.RowKit
set_option linter.unusedVariables false

theorem wr_u8 (n : Nat) (h : n < 256) : IntKind.u8.wrap ((n : Nat) : Int) = ((n : Nat) : Int) := by rw [IntKind.wrap_u8]; omega
theorem wr_u16 (n : Nat) (h : n < 65536) : IntKind.u16.wrap ((n : Nat) : Int) = ((n : Nat) : Int) := by
  simp only [IntKind.wrap, IntKind.bits, IntKind.signed]
  simp
  omega
theorem wr_u32 (n : Nat) (h : n < 4294967296) : IntKind.u32.wrap ((n : Nat) : Int) = ((n : Nat) : Int) := by rw [IntKind.wrap_u32]; omega
theorem wr_u64 (n : Nat) (h : n < 18446744073709551616) : IntKind.u64.wrap ((n : Nat) : Int) = ((n : Nat) : Int) := by
  simp only [IntKind.wrap, IntKind.bits, IntKind.signed]
  simp
  omega
theorem ws_u16 (n : Int) (h0 : 0 ≤ n) (h1 : n < 2 ^ 16) : IntKind.u16.wrap n = n := by
  have := wr_u16 n.toNat (by omega)
  rwa [Int.toNat_of_nonneg h0] at this
theorem ws_u32 (n : Int) (h0 : 0 ≤ n) (h1 : n < 2 ^ 32) : IntKind.u32.wrap n = n := by
  have := wr_u32 n.toNat (by omega)
  rwa [Int.toNat_of_nonneg h0] at this
theorem ws_u64 (n : Int) (h0 : 0 ≤ n) (h1 : n < 2 ^ 64) : IntKind.u64.wrap n = n := by
  have := wr_u64 n.toNat (by omega)
  rwa [Int.toNat_of_nonneg h0] at this

/-- a mask of i bits -/
theorem mask_u16 (i : Nat) (hi : i ≤ 16) (x : Nat) (h : x < 65536) : bits .and .u16 (x : Int) (2 ^ i - 1) = ((x % 2 ^ i : Nat) : Int) := by
  rw [bits_mask .u16 16 (by decide) ws_u16 i hi x (by omega) (by omega)]
  simp
theorem mask_u32 (i : Nat) (hi : i ≤ 32) (x : Nat) (h : x < 4294967296) : bits .and .u32 (x : Int) (2 ^ i - 1) = ((x % 2 ^ i : Nat) : Int) := by
  rw [bits_mask .u32 32 (by decide) ws_u32 i hi x (by omega) (by omega)]
  simp
theorem mask_u64 (i : Nat) (hi : i ≤ 64) (x : Nat) (h : x < 18446744073709551616) : bits .and .u64 (x : Int) (2 ^ i - 1) = ((x % 2 ^ i : Nat) : Int) := by
  rw [bits_mask .u64 64 (by decide) ws_u64 i hi x (by omega) (by omega)]
  simp
/-- two parts joined: a's low i bits are clear, c lies within them -/
theorem join_u16 (i a c : Nat) (ha : a % 2 ^ i = 0) (hc : c < 2 ^ i) (h1 : a < 65536) (h2 : c < 65536) : bits .or .u16 (a : Int) (c : Int) = ((a + c : Nat) : Int) := by
  rw [bits_join .u16 16 (by decide) ws_u16 i a c (by omega) (by have h := congrArg (fun n : Nat => (n : Int)) ha; simpa using h) (by omega) (by omega) (by have h := Int.ofNat_lt.2 hc; simpa using h) (by omega)]
  simp
theorem join_u32 (i a c : Nat) (ha : a % 2 ^ i = 0) (hc : c < 2 ^ i) (h1 : a < 4294967296) (h2 : c < 4294967296) : bits .or .u32 (a : Int) (c : Int) = ((a + c : Nat) : Int) := by
  rw [bits_join .u32 32 (by decide) ws_u32 i a c (by omega) (by have h := congrArg (fun n : Nat => (n : Int)) ha; simpa using h) (by omega) (by omega) (by have h := Int.ofNat_lt.2 hc; simpa using h) (by omega)]
  simp
theorem joinl_u16 (i a c : Nat) (ha : a % 2 ^ i = 0) (hc : c < 2 ^ i) (h1 : a < 65536) (h2 : c < 65536) : bits .or .u16 (c : Int) (a : Int) = ((a + c : Nat) : Int) := by
  rw [← join_u16 i a c ha hc h1 h2, (bits_nat .u16 16 (by decide) ws_u16 c a h2 h1).2, (bits_nat .u16 16 (by decide) ws_u16 a c h1 h2).2, Nat.or_comm]
theorem and_u32 (a c : Nat) (h1 : a < 4294967296) (h2 : c < 4294967296) : bits .and .u32 (a : Int) (c : Int) = ((a &&& c : Nat) : Int) := (bits_nat .u32 32 (by decide) ws_u32 a c h1 h2).1
theorem and_bit (x i : Nat) : x &&& 2 ^ i = x / 2 ^ i % 2 * 2 ^ i := by
  have ht : x.testBit i = decide (x / 2 ^ i % 2 = 1) := Nat.testBit_eq_decide_div_mod_eq
  apply Nat.eq_of_testBit_eq
  intro j
  rw [Nat.testBit_and, Nat.testBit_two_pow]
  have h2 : x / 2 ^ i % 2 = 0 ∨ x / 2 ^ i % 2 = 1 := by omega
  by_cases e : i = j
  · subst e
    rcases h2 with h | h <;> rw [ht, h] <;> simp
  · rcases h2 with h | h <;> rw [h] <;> simp [e]
/-- one bit -/
theorem bit_u32 (i x : Nat) (hi : i < 32) (h : x < 4294967296) : bits .and .u32 (x : Int) ((2 ^ i : Nat) : Int) = ((x / 2 ^ i % 2 * 2 ^ i : Nat) : Int) := by
  have hp : 2 ^ i < 4294967296 := Nat.pow_lt_pow_right (a := 2) (by omega) hi
  rw [and_u32 _ _ h hp, and_bit]
end Go.Proofs.Ybulkdlwq.huff
