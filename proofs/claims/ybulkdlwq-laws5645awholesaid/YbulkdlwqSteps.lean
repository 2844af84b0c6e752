/- LawS5645AWhole: one symbol's entries, a store at a time. -/
import Derived.Test.YbulkdlwqTable
namespace Go.Proofs.Ybulkdlwq.huff
set_option linter.unusedVariables false

theorem mod_gap {d a x : Nat} (hd : 0 < d) (he : x % d = a % d) (h1 : a ≤ x) (h2 : x < a + d) : x = a := by
  have hx := Nat.div_add_mod x d
  have ha := Nat.div_add_mod a d
  have h3 : d * (x / d) < d * (a / d) + d := by omega
  have h4 : d * (a / d) ≤ d * (x / d) := by omega
  have h5 : x / d < a / d + 1 := by
    have : d * (x / d) < d * (a / d + 1) := by rw [Nat.mul_add, Nat.mul_one]; exact h3
    exact Nat.lt_of_mul_lt_mul_left this
  have h6 : a / d ≤ x / d := Nat.le_of_mul_le_mul_left h4 hd
  have h7 : x / d = a / d := by omega
  rw [h7] at hx
  omega
/-- the entries below i that are r modulo d hold y; the rest f -/
def part1 (d r y i : Nat) (f : Nat → Nat) (x : Nat) : Nat := if x % d = r ∧ x < i then y else f x
theorem part1_start {d r y : Nat} {f : Nat → Nat} (hr : r < d) (x : Nat) : part1 d r y r f x = f x := by
  unfold part1
  rw [if_neg]
  rintro ⟨h1, h2⟩
  have := Nat.mod_le x d
  have h3 : x % d = x := Nat.mod_eq_of_lt (by omega)
  omega
theorem part1_step {d r y i : Nat} {f : Nat → Nat} (hd : 0 < d) (hi : i % d = r) (x : Nat) : part1 d r y (i + d) f x = if x = i then y else part1 d r y i f x := by
  unfold part1
  by_cases e : x = i
  · subst e
    rw [if_pos ⟨hi, by omega⟩, if_pos rfl]
  · rw [if_neg e]
    by_cases h1 : x % d = r
    · by_cases h2 : x < i
      · rw [if_pos ⟨h1, by omega⟩, if_pos ⟨h1, h2⟩]
      · by_cases h3 : x < i + d
        · exact absurd (mod_gap hd (by rw [h1, hi]) (by omega) h3) e
        · rw [if_neg (fun h => h3 h.2), if_neg (fun h => h2 h.2)]
    · rw [if_neg (fun h => h1 h.1), if_neg (fun h => h1 h.1)]
theorem part1_prim {L V : List Nat} {sb : Nat → Nat} {s i : Nat} (h0 : L.getD s 0 ≠ 0) (h10 : L.getD s 0 ≤ 10) (hi : 1024 ≤ i) (x : Nat) (hx : x < 1024) : part1 (2 ^ (L.getD s 0)) (R L s) (leaf L V s) i (prim L V sb s) x = prim L V sb (s + 1) x := by
  unfold part1
  rw [prim]
  by_cases e : x % 2 ^ (L.getD s 0) = R L s
  · rw [if_pos ⟨e, by omega⟩, if_pos ⟨h0, h10, e⟩]
  · rw [if_neg (fun h => e h.1), if_neg (fun h => e h.2.2)]
theorem prim_same {L V : List Nat} {sb : Nat → Nat} {s : Nat} (h : L.getD s 0 = 0 ∨ 10 < L.getD s 0) (x : Nat) : prim L V sb (s + 1) x = prim L V sb s x := by
  rw [prim, if_neg]
  rintro ⟨h1, h2, _⟩
  omega
theorem second_same {L V : List Nat} {sb : Nat → Nat} {s : Nat} (h : L.getD s 0 ≤ 10) (x : Nat) : second L V sb (s + 1) x = second L V sb s x := by
  rw [second, if_neg]
  rintro ⟨h1, _⟩
  omega
/-- the second-level entries of one table, below i -/
def part2 (o t d r y i : Nat) (f : Nat → Nat) (x : Nat) : Nat := if o ≤ x ∧ x < o + t ∧ (x - o) % d = r ∧ x - o < i then y else f x
theorem part2_start {o t d r y : Nat} {f : Nat → Nat} (hr : r < d) (x : Nat) : part2 o t d r y r f x = f x := by
  unfold part2
  rw [if_neg]
  rintro ⟨_, _, h1, h2⟩
  have h3 : (x - o) % d = x - o := Nat.mod_eq_of_lt (by omega)
  omega
theorem part2_step {o t d r y i : Nat} {f : Nat → Nat} (hd : 0 < d) (hi : i % d = r) (ht : i < t) (x : Nat) : part2 o t d r y (i + d) f x = if x = o + i then y else part2 o t d r y i f x := by
  unfold part2
  by_cases e : x = o + i
  · subst e
    rw [if_pos ⟨by omega, by omega, by rw [Nat.add_sub_cancel_left]; exact hi, by omega⟩, if_pos rfl]
  · rw [if_neg e]
    by_cases h1 : o ≤ x ∧ x < o + t ∧ (x - o) % d = r
    · by_cases h2 : x - o < i
      · rw [if_pos ⟨h1.1, h1.2.1, h1.2.2, by omega⟩, if_pos ⟨h1.1, h1.2.1, h1.2.2, h2⟩]
      · by_cases h3 : x - o < i + d
        · have := mod_gap hd (x := x - o) (a := i) (by rw [h1.2.2, hi]) (by omega) h3
          omega
        · rw [if_neg (fun h => h3 h.2.2.2), if_neg (fun h => h2 h.2.2.2)]
    · rw [if_neg (fun h => h1 ⟨h.1, h.2.1, h.2.2.1⟩), if_neg (fun h => h1 ⟨h.1, h.2.1, h.2.2.1⟩)]
theorem part2_second {L V : List Nat} {sb : Nat → Nat} {s i : Nat} (h10 : 10 < L.getD s 0) (hi : tsize (sb (R L s % 1024)) ≤ i) (x : Nat) :
    part2 (off sb (R L s % 1024)) (tsize (sb (R L s % 1024))) (2 ^ (L.getD s 0 - 10)) (R L s / 1024) (leaf L V s) i (second L V sb s) x = second L V sb (s + 1) x := by
  unfold part2
  rw [second]
  by_cases e : inTab L sb s x
  · rw [if_pos e, if_pos ⟨e.2.1, e.2.2.1, e.2.2.2, by have := e.2.2.1; have := e.2.1; omega⟩]
  · rw [if_neg e, if_neg (fun h => e ⟨h10, h.1, h.2.1, h.2.2.1⟩)]
end Go.Proofs.Ybulkdlwq.huff
