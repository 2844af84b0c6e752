/- LawS5641CWhole: the contract of 'zzs5641ccopy'. -/
import Derived.Test.YbulkdlumCParts
namespace Go.Proofs.Ybulkdlum.lawC
open Go.RowKit

set_option maxHeartbeats 400000 in
theorem copy_nil (w : World) :
    Calls Yba.prog 14 #[.slice none 0 0] w fun e w' => e = .returned (.slice none 0 0) ∧ w' = w := by
  have q41 : ∀ (w : World) (a : Option Addr) (n c : Nat), (binOp .eql 41 (.slice a n c) (.slice none 0 0)).run Yba.prog w = .ok (.bool a.isNone) w := fun w a n c => Lib.run_eql_slice_nil w _ _ a n c 0 0 Yba.underlying41
  go_enter Yba.func14, Yba.ntmps14
  go_wp2
  go_ret
  exact ⟨rfl, rfl⟩

set_option maxHeartbeats 400000 in
theorem copy_some (x : Addr) (n c : Nat) (xs : List Int) (w : World) (h0 : Row w (some x) n xs) (b0 : n ≤ 4194304) :
    Calls Yba.prog 14 #[.slice (some x) n c] w fun e w' => e = .returned (.slice (some ⟨w.heap.size, 0, none⟩) n n) ∧
      w'.ownsRow w.heap.size 2 1 (.slice (some ⟨w.heap.size, 0, none⟩) n n) n (xs.map (Value.int .i64)) ∧ Below w.heap.size w w' := by
  obtain ⟨hl0, hc0⟩ := h0
  have q41 : ∀ (w : World) (a : Option Addr) (n c : Nat), (binOp .eql 41 (.slice a n c) (.slice none 0 0)).run Yba.prog w = .ok (.bool a.isNone) w := fun w a n c => Lib.run_eql_slice_nil w _ _ a n c 0 0 Yba.underlying41
  obtain ⟨i0, hi, hz0, hz1, hz2⟩ := info_parts info2
  obtain ⟨cs, hcs⟩ : ∃ cs, cs = xs.map (Value.int .i64) := ⟨_, rfl⟩
  have HCS : Hid (cs = xs.map (Value.int .i64)) := hcs
  have HL : Hid (xs.length = n) := hl0
  have HC : Hid (0 < n → ∃ b off, some x = some ⟨b, off, none⟩ ∧ ∀ i, i < n → w.cell? ⟨b, off + i, none⟩ = some (.int .i64 (xs[i]?.getD 0))) := hc0
  clear hcs hl0 hc0
  go_enter Yba.func14, Yba.ntmps14
  go_wp2_with (at_make; refine wpList_make_full _ rfl _ _ 41 rfl w.heap.size 2 i0 (.int .i64 0) 1 Yba.underlying41 hi hz0 hz1 _ _ _ _ n rfl rfl (by omega) (by omega) ?b2 ?b3 (Nat.le_refl _) ?_)
  case b2 => rw [hz2]; omega
  case b3 => unfold maxLen; omega
  intro w1 hown1 hgrow1
  have hb1 : Below w.heap.size w w1 := (Below.refl _ _).grown hgrow1 (Nat.le_refl _) (fun k h => by cases h)
  have hblk : ∃ cur : List Value, w1.heap[w.heap.size]? = some (.cells cur.toArray 2 (0, 0)) ∧ cur.length = n := by
    rcases hown1.2 with ⟨h, _⟩ | ⟨g, cap, cur, hv, _, hh, _, _, hsz, _⟩
    · cases h
    · cases hv
      exact ⟨cur.toList, by simpa using hh, by simpa using hsz⟩
  obtain ⟨cur, hcur, hcl⟩ := hblk
  have HCL : Hid (cur.length = n) := hcl
  have HCU : Hid (w1.heap[w.heap.size]? = some (.cells cur.toArray 2 (0, 0))) := hcur
  clear hcl hown1 hcur
  go_wp2_with (refine wpList_copy_splice rfl (.tmp 9) (.tmp 10) 41 41 rfl 2 Yba.underlying41 size2 _ _ _ _ _ _ rfl rfl w.heap.size 0 cur 2 HCU.out cs ?hn ?hpos ?hfit ?h1 w.heap.size w hb1 (Nat.le_refl _) ?_)
  case hn => rw [HCS.out]; simp [HL.out]
  case hpos =>
    intro hp
    rw [HCS.out] at hp
    simp only [List.length_map, HL.out] at hp
    obtain ⟨b, off, e, hc⟩ := HC.out hp
    obtain rfl : x = ⟨b, off, none⟩ := by simpa using e
    intro j v hj
    rw [HCS.out] at hj
    obtain ⟨z, hz, rfl⟩ := by simpa using hj
    have hjn : j < n := by rw [← HL.out]; exact (List.getElem?_eq_some_iff.1 hz).1
    have := cell_later hb1 (hc j hjn)
    rw [Addr.add_lit]; simpa [hz] using this
  case hfit => rw [HCS.out, HCL.out]; simp [HL.out]
  case h1 => rw [HCS.out]; exact ints_oneCell _ _
  intro w2 hg2 hb2
  go_wp2
  go_ret
  refine ⟨rfl, ⟨by simp [HL.out], .inr ⟨w.heap.size, n, _, rfl, Nat.le_refl _, hg2.out, Nat.le_refl _, by unfold maxLen; omega, ?_, ?_⟩⟩, hb2⟩
  · have : cs.length = n := by rw [HCS.out]; simp [HL.out]
    simp [splice, HCL.out, this]
  · have : cs.length = n := by rw [HCS.out]; simp [HL.out]
    rw [← HCS.out]
    simp [splice, this]

/-- 'zzs5641ccopy': nil for nil, else a new array that reads alike. -/
theorem copy_any (a : Option Addr) (n c : Nat) (xs : List Int) (w : World) (h0 : Row w a n xs) (hnil : a = none → n = 0 ∧ c = 0) (b0 : n ≤ 4194304) :
    Calls Yba.prog 14 #[.slice a n c] w fun e w' => ∃ a' c', e = .returned (.slice a' n c') ∧ w'.ownsRow w.heap.size 2 1 (.slice a' n c') n (xs.map (Value.int .i64)) ∧ a'.isNone = a.isNone ∧ Below w.heap.size w w' := by
  cases a with
  | none =>
    obtain ⟨rfl, rfl⟩ := hnil rfl
    have hx : xs = [] := List.eq_nil_of_length_eq_zero h0.1
    subst hx
    refine (copy_nil w).mono ?_
    rintro e w' ⟨rfl, rfl⟩
    exact ⟨none, 0, rfl, World.ownsRow_nil _ _ _ _, rfl, Below.refl _ _⟩
  | some x =>
    refine (copy_some x n c xs w h0 b0).mono ?_
    rintro e w' ⟨rfl, ho, hb⟩
    exact ⟨_, n, rfl, ho, rfl, hb⟩
end Go.Proofs.Ybulkdlum.lawC
