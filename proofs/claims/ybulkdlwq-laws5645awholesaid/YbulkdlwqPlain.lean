/- LawS5645AWhole: the canonical code, with no Go in sight. -/
import Derived.WalkKit
namespace Go.Proofs.Ybulkdlwq.huff
set_option linter.unusedVariables false

/-- how many symbols have a code of length l -/
def cnt (L : List Nat) (l : Nat) : Nat := if l = 0 then 0 else L.count l
/-- the first code of length l -/
def first (L : List Nat) : Nat → Nat
  | 0 => 0
  | l + 1 => 2 * (first L l + cnt L l)
def rank (L : List Nat) (s : Nat) : Nat := (L.take s).count (L.getD s 0)
def code (L : List Nat) (s : Nat) : Nat := first L (L.getD s 0) + rank L s
/-- the first l bits of b, the first of them highest -/
def rd (b : Nat) : Nat → Nat
  | 0 => 0
  | l + 1 => 2 * rd b l + (b / 2 ^ l) % 2
/-- l bits turned about -/
def rv : Nat → Nat → Nat
  | 0, _ => 0
  | l + 1, c => (c % 2) * 2 ^ l + rv l (c / 2)

theorem rv_lt : ∀ l c, rv l c < 2 ^ l
  | 0, c => by simp [rv]
  | l + 1, c => by
    have h := rv_lt l (c / 2)
    have h2 : c % 2 = 0 ∨ c % 2 = 1 := by omega
    rw [rv, Nat.pow_succ]
    rcases h2 with e | e <;> rw [e] <;> omega
theorem rd_lt (b : Nat) : ∀ l, rd b l < 2 ^ l
  | 0 => by simp [rd]
  | l + 1 => by
    have h := rd_lt b l
    rw [rd, Nat.pow_succ]
    omega
theorem mod_succ (b l : Nat) : b % 2 ^ (l + 1) = (b / 2 ^ l % 2) * 2 ^ l + b % 2 ^ l := by
  rw [Nat.pow_succ, Nat.mod_mul, Nat.add_comm, Nat.mul_comm]
theorem rd_iff (b : Nat) : ∀ l c, c < 2 ^ l → (rd b l = c ↔ b % 2 ^ l = rv l c)
  | 0, c, h => by
    have : c = 0 := by simpa using h
    subst this
    simp [rd, rv, Nat.mod_one]
  | l + 1, c, h => by
    have hc : c / 2 < 2 ^ l := by rw [Nat.pow_succ] at h; omega
    have ih := rd_iff b l (c / 2) hc
    have h1 := rv_lt l (c / 2)
    have h2 : b % 2 ^ l < 2 ^ l := Nat.mod_lt _ (Nat.two_pow_pos l)
    rw [mod_succ, rd, rv]
    have hb : b / 2 ^ l % 2 = 0 ∨ b / 2 ^ l % 2 = 1 := by omega
    have hcc : c % 2 = 0 ∨ c % 2 = 1 := by omega
    constructor
    · intro e
      have e1 : rd b l = c / 2 := by omega
      have e2 : b / 2 ^ l % 2 = c % 2 := by omega
      rw [e2, ih.1 e1]
    · intro e
      have e2 : b / 2 ^ l % 2 = c % 2 := by
        rcases hb with x | x <;> rcases hcc with y | y <;> rw [x, y] at e <;> rw [x, y] <;> omega
      rw [e2] at e
      have := ih.2 (by omega)
      omega
/-- a code with room above it -/
theorem rv_up : ∀ l c, c < 2 ^ l → rv (l + 1) c = 2 * rv l c
  | 0, c, h => by
    have : c = 0 := by simpa using h
    subst this
    simp [rv]
  | l + 1, c, h => by
    have hc : c / 2 < 2 ^ l := by rw [Nat.pow_succ] at h; omega
    rw [rv, rv_up l _ hc, show rv (l + 1) c = (c % 2) * 2 ^ l + rv l (c / 2) from rfl, Nat.mul_add, Nat.pow_succ]
    congr 1
    rw [← Nat.mul_assoc, Nat.mul_comm 2]
theorem rv_ups (l c : Nat) (h : c < 2 ^ l) : ∀ d, rv (l + d) c = 2 ^ d * rv l c
  | 0 => by simp
  | d + 1 => by
    have hlt : c < 2 ^ (l + d) := Nat.lt_of_lt_of_le h (Nat.pow_le_pow_right (by omega) (by omega))
    rw [← Nat.add_assoc, rv_up _ _ hlt, rv_ups l c h d, Nat.pow_succ, ← Nat.mul_assoc, Nat.mul_comm 2]
theorem rv_shift (l c N : Nat) (hl : l ≤ N) (h : c < 2 ^ l) : rv N c / 2 ^ (N - l) = rv l c := by
  have := rv_ups l c h (N - l)
  rw [show l + (N - l) = N by omega] at this
  rw [this, Nat.mul_div_cancel_left _ (Nat.two_pow_pos _)]

/-! ### the lengths make a code -/
theorem room_of {L : List Nat} {N : Nat} (h : first L N + cnt L N ≤ 2 ^ N) : ∀ l, l ≤ N → first L l + cnt L l ≤ 2 ^ l := by
  intro l hl
  induction N with
  | zero =>
    obtain rfl : l = 0 := by omega
    exact h
  | succ N ih =>
    by_cases e : l = N + 1
    · subst e
      exact h
    · refine ih ?_ (by omega)
      rw [first, Nat.pow_succ] at h
      omega
theorem rank_lt {L : List Nat} {s : Nat} (hs : s < L.length) : rank L s < L.count (L.getD s 0) := by
  unfold rank
  have e : L = L.take s ++ (L.getD s 0 :: L.drop (s + 1)) := by
    have h1 : L.getD s 0 = L[s] := by simp [List.getD, List.getElem?_eq_getElem hs]
    rw [h1, List.getElem_cons_drop, List.take_append_drop]
  obtain ⟨x, hx⟩ : ∃ x, L.getD s 0 = x := ⟨_, rfl⟩
  rw [hx] at e ⊢
  have h2 : L.count x = (L.take s).count x + (x :: L.drop (s + 1)).count x := by
    rw [← List.count_append, ← e]
  rw [h2, List.count_cons_self]
  omega
theorem cnt_pos {L : List Nat} {l : Nat} (h : l ≠ 0) : cnt L l = L.count l := by simp [cnt, h]
theorem code_below {L : List Nat} {s : Nat} (hs : s < L.length) (h0 : L.getD s 0 ≠ 0) : code L s < first L (L.getD s 0) + cnt L (L.getD s 0) := by
  have := rank_lt hs
  rw [cnt_pos h0]
  unfold code
  omega
theorem code_lt {L : List Nat} {s N : Nat} (hs : s < L.length) (h0 : L.getD s 0 ≠ 0) (hN : L.getD s 0 ≤ N) (h : first L N + cnt L N ≤ 2 ^ N) : code L s < 2 ^ (L.getD s 0) :=
  Nat.lt_of_lt_of_le (code_below hs h0) (room_of h _ hN)

theorem past {L : List Nat} {b l : Nat} (h : rd b l < first L l + cnt L l) : ∀ d, rd b (l + 1 + d) < first L (l + 1 + d)
  | 0 => by
    show rd b (l + 1) < first L (l + 1)
    rw [rd, first]
    omega
  | d + 1 => by
    have ih := past h d
    rw [show l + 1 + (d + 1) = (l + 1 + d) + 1 by omega, rd, first]
    omega
theorem rank_inj {L : List Nat} {s s' : Nat} (hs : s < L.length) (hs' : s' < L.length) (e : L.getD s 0 = L.getD s' 0) (hr : rank L s = rank L s') : s = s' := by
  have key : ∀ a c, a < L.length → c < L.length → a < c → L.getD a 0 = L.getD c 0 → rank L a < rank L c := by
    intro a c ha hc hac he
    unfold rank
    rw [← he]
    have h1 : (L.take (a + 1)).count (L.getD a 0) = (L.take a).count (L.getD a 0) + 1 := by
      rw [List.take_add_one, List.getElem?_eq_getElem ha, List.count_append]
      simp [List.getD, List.getElem?_eq_getElem ha]
    have h2 : (L.take (a + 1)).count (L.getD a 0) ≤ (L.take c).count (L.getD a 0) := by
      have : (L.take (a + 1)).Sublist (L.take c) := by
        rw [show L.take (a + 1) = (L.take c).take (a + 1) by rw [List.take_take]; congr 1; omega]
        exact List.take_sublist _ _
      exact this.count_le _
    omega
  by_cases h1 : s < s'
  · have := key s s' hs hs' h1 e
    omega
  · by_cases h2 : s' < s
    · have := key s' s hs' hs h2 e.symm
      omega
    · omega
/-- AT MOST ONE SYMBOL -/
theorem unique {L : List Nat} {b s s' : Nat} (hs : s < L.length) (hs' : s' < L.length) (h0 : L.getD s 0 ≠ 0) (h0' : L.getD s' 0 ≠ 0) (e : rd b (L.getD s 0) = code L s) (e' : rd b (L.getD s' 0) = code L s') : s = s' := by
  have key : ∀ a c, a < L.length → L.getD a 0 ≠ 0 → rd b (L.getD a 0) = code L a → rd b (L.getD c 0) = code L c → ¬ L.getD a 0 < L.getD c 0 := by
    intro a c ha ha0 hea hec hlt
    have h1 : rd b (L.getD a 0) < first L (L.getD a 0) + cnt L (L.getD a 0) := by
      rw [hea]
      exact code_below ha ha0
    have h2 := past h1 (L.getD c 0 - (L.getD a 0 + 1))
    rw [show L.getD a 0 + 1 + (L.getD c 0 - (L.getD a 0 + 1)) = L.getD c 0 by omega, hec] at h2
    unfold code at h2
    omega
  have h1 := key s s' hs h0 e e'
  have h2 := key s' s hs' h0' e' e
  have hl : L.getD s 0 = L.getD s' 0 := by omega
  refine rank_inj hs hs' hl ?_
  rw [hl] at e
  rw [e] at e'
  unfold code at e'
  rw [hl] at e'
  omega
theorem nth_of_count : ∀ (L : List Nat) (l k : Nat), k < L.count l → ∃ s, s < L.length ∧ L.getD s 0 = l ∧ (L.take s).count l = k
  | [], l, k, h => by simp at h
  | x :: L, l, k, h => by
    by_cases e : x = l
    · subst e
      cases k with
      | zero => exact ⟨0, by simp, rfl, by simp⟩
      | succ k =>
        rw [List.count_cons_self] at h
        obtain ⟨s, h1, h2, h3⟩ := nth_of_count L x k (by omega)
        exact ⟨s + 1, by simp; omega, by simpa using h2, by rw [List.take_succ_cons, List.count_cons_self, h3]⟩
    · rw [List.count_cons_of_ne e] at h
      obtain ⟨s, h1, h2, h3⟩ := nth_of_count L l k h
      exact ⟨s + 1, by simp; omega, by simpa using h2, by rw [List.take_succ_cons, List.count_cons_of_ne e, h3]⟩
/-- A COMPLETE CODE: AT LEAST ONE SYMBOL -/
theorem exists_of_full {L : List Nat} {N : Nat} (h : first L N + cnt L N = 2 ^ N) (b : Nat) : ∃ s, s < L.length ∧ L.getD s 0 ≠ 0 ∧ rd b (L.getD s 0) = code L s := by
  have key : ∀ l, l ≤ N → (∃ s, s < L.length ∧ L.getD s 0 ≠ 0 ∧ rd b (L.getD s 0) = code L s) ∨ first L l + cnt L l ≤ rd b l := by
    intro l
    induction l with
    | zero => intro _; exact .inr (by simp [first, cnt])
    | succ l ih =>
      intro hl
      rcases ih (by omega) with h1 | h1
      · exact .inl h1
      · by_cases h2 : rd b (l + 1) < first L (l + 1) + cnt L (l + 1)
        · have h3 : first L (l + 1) ≤ rd b (l + 1) := by
            rw [first, rd]
            omega
          rw [cnt_pos (by omega)] at h2
          obtain ⟨s, hs, he, hk⟩ := nth_of_count L (l + 1) (rd b (l + 1) - first L (l + 1)) (by omega)
          refine .inl ⟨s, hs, by omega, ?_⟩
          unfold code rank
          rw [he, hk]
          omega
        · exact .inr (by omega)
  rcases key N (Nat.le_refl _) with h1 | h1
  · exact h1
  · have := rd_lt b N
    omega

/-! ### the sum of the lengths -/
def kr : List Nat → Nat
  | [] => 0
  | l :: L => (if l = 0 then 0 else 2 ^ (15 - l)) + kr L
theorem kr_append (A B : List Nat) : kr (A ++ B) = kr A + kr B := by
  induction A with
  | nil => simp [kr]
  | cons a A ih => simp only [List.cons_append, kr, ih]; omega
/-- what the codes shorter than l take, in units of l -/
def short : List Nat → Nat → Nat
  | [], _ => 0
  | m :: L, l => (if m = 0 then 0 else if m < l then 2 ^ (l - m) else 0) + short L l
theorem short_zero (L : List Nat) : short L 0 = 0 := by
  induction L with
  | nil => rfl
  | cons m L ih => simp [short, ih]
theorem short_succ (L : List Nat) (l : Nat) : short L (l + 1) = 2 * (short L l + cnt L l) := by
  induction L with
  | nil => simp [short, cnt]
  | cons m L ih =>
    rw [short, short, ih]
    by_cases h0 : m = 0
    · subst h0
      rw [if_pos rfl, if_pos rfl]
      have : cnt (0 :: L) l = cnt L l := by
        unfold cnt
        split
        · rfl
        · rename_i hl
          rw [List.count_cons_of_ne (fun e => hl e.symm)]
      rw [this]
      omega
    · rw [if_neg h0, if_neg h0]
      by_cases h1 : m < l
      · rw [if_pos h1, if_pos (by omega), show l + 1 - m = (l - m) + 1 by omega, Nat.pow_succ]
        have : cnt (m :: L) l = cnt L l := by
          unfold cnt
          rw [List.count_cons_of_ne (by omega)]
        rw [this]
        omega
      · rw [if_neg h1]
        by_cases h2 : m = l
        · subst h2
          rw [if_pos (by omega), cnt_pos h0, cnt_pos h0, List.count_cons_self, show m + 1 - m = 1 by omega]
          omega
        · rw [if_neg (by omega)]
          have : cnt (m :: L) l = cnt L l := by
            unfold cnt
            rw [List.count_cons_of_ne (by omega)]
          rw [this]
          omega
theorem first_eq (L : List Nat) : ∀ l, first L l = short L l
  | 0 => (short_zero L).symm
  | l + 1 => by rw [first, short_succ, first_eq L l]
theorem kr_eq {L : List Nat} (h : ∀ l ∈ L, l ≤ 15) : first L 15 + cnt L 15 = kr L := by
  have h1 : 2 * (first L 15 + cnt L 15) = short L 16 := by rw [← first_eq]; rfl
  have h2 : short L 16 = 2 * kr L := by
    clear h1
    induction L with
    | nil => rfl
    | cons m L ih =>
      rw [short, kr, ih (fun l hl => h l (List.mem_cons_of_mem _ hl))]
      have hm := h m List.mem_cons_self
      by_cases h0 : m = 0
      · rw [if_pos h0, if_pos h0]
        omega
      · rw [if_neg h0, if_neg h0, if_pos (by omega), show 16 - m = (15 - m) + 1 by omega, Nat.pow_succ]
        omega
  omega
end Go.Proofs.Ybulkdlwq.huff
