/- LawS5645AWhole: the decoder in memory; the contract of lookup. -/
import Derived.Test.YbulkdlwqBlk
import Derived.Test.YbulkdlwqBits
namespace Go.Proofs.Ybulkdlwq.huff
open Go.RowKit
set_option linter.unusedVariables false

/-- block h is a decoder: the primary table, the slice, the greatest length -/
def Dec (w : World) (h : Nat) (f : Nat → Nat) (sl : Value) (m : Nat) : Prop := Blk w h 32 (ofN 1024 .u32 f ++ #[sl, .int .u64 (m : Nat)])
theorem Dec.prim {w : World} {h : Nat} {f : Nat → Nat} {sl : Value} {m : Nat} (d : Dec w h f sl m) (i : Nat) (hi : i < 1024) : w.cell? ⟨h, i, none⟩ = some (.int .u32 (f i : Nat)) :=
  Blk.cell d i (by rw [Array.getElem?_append_left (by rw [ofN_size]; exact hi), ofN_get _ _ _ _ hi])
theorem Dec.sub {w : World} {h : Nat} {f : Nat → Nat} {sl : Value} {m : Nat} (d : Dec w h f sl m) : w.cell? ⟨h, 1024, none⟩ = some sl :=
  Blk.cell d 1024 (by rw [Array.getElem?_append_right (by rw [ofN_size]; omega), ofN_size]; rfl)
theorem Dec.max {w : World} {h : Nat} {f : Nat → Nat} {sl : Value} {m : Nat} (d : Dec w h f sl m) : w.cell? ⟨h, 1025, none⟩ = some (.int .u64 (m : Nat)) :=
  Blk.cell d 1025 (by rw [Array.getElem?_append_right (by rw [ofN_size]; omega), ofN_size]; rfl)
theorem Dec.free {w : World} {h : Nat} {f : Nat → Nat} {sl : Value} {m : Nat} (d : Dec w h f sl m) (i : Nat) : w.frozen? ⟨h, i, none⟩ = false := Blk.free d i
theorem Dec.putPrim {w : World} {h : Nat} {f f' : Nat → Nat} {sl : Value} {m : Nat} (d : Dec w h f sl m) (i v : Nat) (hi : i < 1024) (he : ∀ j, j < 1024 → f' j = if j = i then v else f j) : Dec (w.setCell ⟨h, i, none⟩ (.int .u32 (v : Nat))) h f' sl m := by
  have := Blk.set d i (.int .u32 (v : Nat))
  rw [Array.setIfInBounds_append_left (by rw [ofN_size]; exact hi), ofN_set _ _ _ _ _ hi] at this
  unfold Dec
  rw [ofN_congr he]
  exact this
theorem Dec.putSub {w : World} {h : Nat} {f : Nat → Nat} {sl sl' : Value} {m : Nat} (d : Dec w h f sl m) : Dec (w.setCell ⟨h, 1024, none⟩ sl') h f sl' m := by
  have := Blk.set d 1024 sl'
  rw [Array.setIfInBounds_append_right (by rw [ofN_size]; omega), ofN_size] at this
  exact this
theorem Dec.putMax {w : World} {h : Nat} {f : Nat → Nat} {sl : Value} {m m' : Nat} (d : Dec w h f sl m) : Dec (w.setCell ⟨h, 1025, none⟩ (.int .u64 (m' : Nat))) h f sl m' := by
  have := Blk.set d 1025 (.int .u64 (m' : Nat))
  rw [Array.setIfInBounds_append_right (by rw [ofN_size]; omega), ofN_size] at this
  exact this
theorem Dec.later {w w' : World} {h : Nat} {f : Nat → Nat} {sl : Value} {m : Nat} (d : Dec w h f sl m) (hb : Below w.heap.size w w') : Dec w' h f sl m := Blk.later d hb
theorem Dec.other {w : World} {h : Nat} {f : Nat → Nat} {sl : Value} {m : Nat} (d : Dec w h f sl m) {a : Addr} (ha : h ≠ a.block) (v : Value) : Dec (w.setCell a v) h f sl m := Blk.other d ha v
theorem Dec.to {w : World} {h : Nat} {f f' : Nat → Nat} {sl : Value} {m : Nat} (d : Dec w h f sl m) (he : ∀ j, j < 1024 → f j = f' j) : Dec w h f' sl m := by
  unfold Dec
  rw [← ofN_congr he]
  exact d

set_option maxRecDepth 100000 in
set_option maxHeartbeats 800000 in
theorem look_leaf (h b e m : Nat) (f : Nat → Nat) (sl : Value) (w : World) (hd : Dec w h f sl m) (hb : b < 18446744073709551616) (he : f (b % 1024) = e) (he32 : e < 4294967296) (hf : e / 1024 % 2 = 0) :
    Calls Yba.prog 6 #[.pointer (some ⟨h, 0, none⟩), .int .u64 (b : Nat)] w fun r w' => r = .returned (.int .u32 (e : Nat)) ∧ Below w.heap.size w w' := by
  have c0 : w.cell? ⟨h, b % 1024, none⟩ = some (.int .u32 (e : Nat)) := by rw [← he]; exact hd.prim _ (by omega)
  have b1 : bits .and .u64 (b : Int) 1023 = ((b % 1024 : Nat) : Int) := by rw [show (1023 : Int) = 2 ^ 10 - 1 by decide]; exact mask_u64 10 (by omega) b hb
  have b2 : bits .and .u32 (e : Int) 1024 = 0 := by rw [show (1024 : Int) = ((2 ^ 10 : Nat) : Int) by decide, bit_u32 10 e (by omega) he32, hf]; rfl
  have hr : b % 1024 < 1024 := by omega
  obtain ⟨r, hrr⟩ : ∃ r, r = b % 1024 := ⟨_, rfl⟩
  rw [← hrr] at c0 b1 hr
  clear hd he hf hrr
  go_enter Yba.func6, Yba.ntmps6
  go_wp2_with fail
  go_ret
  exact ⟨rfl, Below.refl _ _⟩

set_option maxRecDepth 100000 in
set_option maxHeartbeats 800000 in
theorem look_link (h b e m gs size x q t : Nat) (f f2 : Nat → Nat) (w : World) (hd : Dec w h f (.slice (some ⟨gs, 0, none⟩) size size) m) (hs : Rd w gs 0 size .u32 f2) (hb : b < 18446744073709551616) (he : f (b % 1024) = e) (he32 : e < 4294967296) (hf : e / 1024 % 2 = 1)
    (hq : e % 16 = q) (ht : e / 65536 = t) (hx : t + b / 1024 % 2 ^ q = x) (hxs : x < size) (hsz : size ≤ 65536) :
    Calls Yba.prog 6 #[.pointer (some ⟨h, 0, none⟩), .int .u64 (b : Nat)] w fun r w' => r = .returned (.int .u32 (f2 x : Nat)) ∧ Below w.heap.size w w' := by
  have c0 : w.cell? ⟨h, b % 1024, none⟩ = some (.int .u32 (e : Nat)) := by rw [← he]; exact hd.prim _ (by omega)
  have c1 := hd.sub
  have c2 : w.cell? ⟨gs, x, none⟩ = some (.int .u32 (f2 x : Nat)) := by have := hs x hxs; rwa [Nat.zero_add] at this
  have b1 : bits .and .u64 (b : Int) 1023 = ((b % 1024 : Nat) : Int) := by rw [show (1023 : Int) = 2 ^ 10 - 1 by decide]; exact mask_u64 10 (by omega) b hb
  have b2 : bits .and .u32 (e : Int) 1024 = 1024 := by rw [show (1024 : Int) = ((2 ^ 10 : Nat) : Int) by decide, bit_u32 10 e (by omega) he32, hf]
  have b3 : bits .and .u32 (e : Int) 15 = (q : Nat) := by rw [show (15 : Int) = 2 ^ 4 - 1 by decide, mask_u32 4 (by omega) e he32]; rw [show (2 : Nat) ^ 4 = 16 from rfl, hq]
  have hr : b % 1024 < 1024 := by omega
  obtain ⟨r, hrr⟩ : ∃ r, r = b % 1024 := ⟨_, rfl⟩
  rw [← hrr] at c0 b1 hr
  have hq16 : q < 16 := by omega
  have hX : ((e : Int) / 65536 + bits .and .u32 ((b : Int) / 1024 % 4294967296) (((2 : Int) ^ q - 1) % 4294967296)) % 4294967296 = (x : Nat) := by
    have hp : 2 ^ q ≤ 32768 := Nat.pow_le_pow_right (show 2 > 0 by omega) (show q ≤ 15 by omega)
    have hp0 : 0 < 2 ^ q := Nat.two_pow_pos q
    have h1 : ((2 : Int) ^ q - 1) % 4294967296 = 2 ^ q - 1 := by
      have : ((2 : Int) ^ q) = ((2 ^ q : Nat) : Int) := by simp
      rw [this]
      generalize 2 ^ q = y at hp hp0
      omega
    have h2 : (b : Int) / 1024 % 4294967296 = ((b / 1024 % 4294967296 : Nat) : Int) := by omega
    have h3 : b / 1024 % 4294967296 % 2 ^ q = b / 1024 % 2 ^ q := by
      rw [show (4294967296 : Nat) = 2 ^ 32 from rfl]
      exact Nat.mod_mod_of_dvd _ (Nat.pow_dvd_pow 2 (by omega))
    rw [h1, h2, mask_u32 q (by omega) _ (by omega), h3]
    generalize b / 1024 % 2 ^ q = y at hx
    omega
  clear hd he hf hrr hs hx ht hq
  go_enter Yba.func6, Yba.ntmps6
  go_wp2_with fail
  go_ret
  exact ⟨rfl, Below.refl _ _⟩
end Go.Proofs.Ybulkdlwq.huff
