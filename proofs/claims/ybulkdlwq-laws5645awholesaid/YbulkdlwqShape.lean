/- LawS5645AWhole: the lengths that the law makes, with no Go in sight. -/
import Derived.Test.YbulkdlwqTable
namespace Go.Proofs.Ybulkdlwq.huff
set_option linter.unusedVariables false

theorem kr_set : ∀ (A : List Nat) (i a b : Nat), A[i]? = some a → kr (A.set i b) + (if a = 0 then 0 else 2 ^ (15 - a)) = kr A + (if b = 0 then 0 else 2 ^ (15 - b))
  | [], i, a, b, h => by simp at h
  | x :: A, 0, a, b, h => by
    simp only [List.getElem?_cons_zero, Option.some.injEq] at h
    subst h
    simp only [List.set_cons_zero, kr]
    omega
  | x :: A, i + 1, a, b, h => by
    simp only [List.getElem?_cons_succ] at h
    have := kr_set A i a b h
    simp only [List.set_cons_succ, kr]
    omega
/-- the leaves of a tree: one at the root, or a full tree -/
def Tree (A : List Nat) : Prop := A = [0] ∨ ((∀ x ∈ A, 1 ≤ x ∧ x ≤ 15) ∧ kr A = 2 ^ 15)
theorem Tree.split {A : List Nat} (h : Tree A) {i a : Nat} (hi : A[i]? = some a) (ha : a < 15) : Tree (A.set i (a + 1) ++ [a + 1]) := by
  rcases h with rfl | ⟨h1, h2⟩
  · have h0 : i = 0 ∧ a = 0 := by
      cases i with
      | zero => simp at hi; omega
      | succ i => simp at hi
    obtain ⟨rfl, rfl⟩ := h0
    refine .inr ⟨?_, rfl⟩
    intro x hx
    simp at hx
    omega
  · have hm := h1 a (List.mem_of_getElem? hi)
    refine .inr ⟨?_, ?_⟩
    · intro x hx
      rcases List.mem_append.1 hx with hx | hx
      · rcases List.mem_or_eq_of_mem_set hx with hx | hx
        · exact h1 x hx
        · omega
      · simp at hx
        omega
    · have h3 := kr_set A i a (a + 1) hi
      rw [if_neg (by omega), if_neg (by omega), show 15 - a = (15 - (a + 1)) + 1 by omega, Nat.pow_succ] at h3
      rw [kr_append]
      simp only [kr]
      rw [if_neg (by omega)]
      omega
theorem Tree.le {A : List Nat} (h : Tree A) : ∀ x ∈ A, x ≤ 15 := by
  rcases h with rfl | ⟨h1, _⟩
  · intro x hx; simp at hx; omega
  · exact fun x hx => (h1 x hx).2
/-- the leaves that the law may come by -/
def Leaves (A : List Nat) : Prop := A = [1] ∨ Tree A
theorem Leaves.le {A : List Nat} (h : Leaves A) : ∀ x ∈ A, x ≤ 15 := by
  rcases h with rfl | h
  · intro x hx; simp at hx; omega
  · exact h.le
/-- zeros laid between the first k leaves -/
structure Laid (A : List Nat) (k : Nat) (L : List Nat) : Prop where
  sum : kr L = kr (A.take k)
  mem : ∀ x ∈ L, x = 0 ∨ x ∈ A
  room : L.length + A.length ≤ 288 + k
theorem Laid.start {A : List Nat} (h : A.length ≤ 288) : Laid A 0 [] := ⟨rfl, by simp, by simpa using h⟩
theorem Laid.zero {A L : List Nat} {k : Nat} (h : Laid A k L) (hr : L.length + A.length < 288 + k) : Laid A k (L ++ [0]) := by
  refine ⟨?_, ?_, ?_⟩
  · rw [kr_append, h.sum]; simp [kr]
  · intro x hx
    rcases List.mem_append.1 hx with hx | hx
    · exact h.mem x hx
    · simp at hx; exact .inl hx
  · simp; omega
theorem Laid.leaf {A L : List Nat} {k d : Nat} (h : Laid A k L) (hk : A[k]? = some d) : Laid A (k + 1) (L ++ [d]) := by
  refine ⟨?_, ?_, ?_⟩
  · rw [kr_append, h.sum, List.take_add_one, hk, kr_append]; rfl
  · intro x hx
    rcases List.mem_append.1 hx with hx | hx
    · exact h.mem x hx
    · simp at hx; subst hx; exact .inr (List.mem_of_getElem? hk)
  · have := h.room; simp; omega
theorem Laid.good {A L : List Nat} (hA : Leaves A) (h : Laid A A.length L) : Good L ∧ (first L 15 + cnt L 15 = 2 ^ 15 ∨ ∀ s, L.getD s 0 ≤ 1) := by
  have hle : ∀ x ∈ L, x ≤ 15 := by
    intro x hx
    rcases h.mem x hx with rfl | hx
    · omega
    · exact hA.le x hx
  have hs := kr_eq hle
  have hget : ∀ s B, (∀ x ∈ L, x ≤ B) → L.getD s 0 ≤ B := by
    intro s B hB
    rw [List.getD_eq_getElem?_getD]
    cases e : L[s]? with
    | none => simp
    | some y => exact hB y (List.mem_of_getElem? e)
  have hk : kr L = kr A := by rw [h.sum, List.take_length]
  have h1 : (∀ x ∈ A, x ≤ 1) → ∀ x ∈ L, x ≤ 1 := by
    intro hB x hx
    rcases h.mem x hx with rfl | hx
    · omega
    · exact hB x hx
  rcases hA with rfl | rfl | ⟨_, h2⟩
  · exact ⟨⟨fun s => hget s 15 hle, by rw [hs, hk]; decide⟩, .inr (fun s => hget s 1 (h1 (by simp)))⟩
  · exact ⟨⟨fun s => hget s 15 hle, by rw [hs, hk]; decide⟩, .inr (fun s => hget s 1 (h1 (by simp)))⟩
  · exact ⟨⟨fun s => hget s 15 hle, by rw [hs, hk, h2]; exact Nat.le_refl _⟩, .inl (by rw [hs, hk, h2])⟩
/-- a value that bears no length and no flag -/
theorem clear_and (v : Nat) : (v &&& 4294966256) % 16 = 0 ∧ (v &&& 4294966256) / 1024 % 2 = 0 ∧ (v &&& 4294966256) < 4294967296 := by
  refine ⟨?_, ?_, ?_⟩
  · rw [show (16 : Nat) = 2 ^ 4 from rfl]
    apply Nat.eq_of_testBit_eq
    intro i
    rw [Nat.testBit_mod_two_pow, Nat.testBit_and, Nat.zero_testBit]
    by_cases hi : i < 4
    · have : i = 0 ∨ i = 1 ∨ i = 2 ∨ i = 3 := by omega
      rcases this with rfl | rfl | rfl | rfl <;> simp [Nat.testBit] <;> decide
    · simp [hi]
  · have h := Nat.testBit_and v 4294966256 10
    rw [show Nat.testBit 4294966256 10 = false by decide, Bool.and_false, Nat.testBit_eq_decide_div_mod_eq] at h
    simp at h
    omega
  · exact Nat.lt_of_le_of_lt Nat.and_le_right (by decide)
end Go.Proofs.Ybulkdlwq.huff
