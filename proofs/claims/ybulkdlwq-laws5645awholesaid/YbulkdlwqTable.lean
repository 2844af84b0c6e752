/- LawS5645AWhole: the two tables of the decoder, with no Go in sight. -/
import Derived.Test.YbulkdlwqPlain
namespace Go.Proofs.Ybulkdlwq.huff
set_option linter.unusedVariables false

/-- the code of symbol s, turned about -/
def R (L : List Nat) (s : Nat) : Nat := rv (L.getD s 0) (code L s)
/-- b begins with the code of s -/
def M (L : List Nat) (b s : Nat) : Prop := s < L.length ∧ L.getD s 0 ≠ 0 ∧ b % 2 ^ (L.getD s 0) = R L s

/-- lengths that make a code -/
structure Good (L : List Nat) : Prop where
  le : ∀ s, L.getD s 0 ≤ 15
  room : first L 15 + cnt L 15 ≤ 2 ^ 15

theorem M_iff {L : List Nat} (h : Good L) {b s : Nat} (hs : s < L.length) (h0 : L.getD s 0 ≠ 0) : M L b s ↔ rd b (L.getD s 0) = code L s := by
  unfold M R
  rw [rd_iff b _ _ (code_lt hs h0 (h.le s) h.room)]
  exact ⟨fun h => h.2.2, fun h => ⟨hs, h0, h⟩⟩
theorem M_unique {L : List Nat} (h : Good L) {b s s' : Nat} (m : M L b s) (m' : M L b s') : s = s' :=
  unique m.1 m'.1 m.2.1 m'.2.1 ((M_iff h m.1 m.2.1).1 m) ((M_iff h m'.1 m'.2.1).1 m')
theorem M_exists {L : List Nat} (h : Good L) (hf : first L 15 + cnt L 15 = 2 ^ 15) (b : Nat) : ∃ s, M L b s := by
  obtain ⟨s, h1, h2, h3⟩ := exists_of_full hf b
  exact ⟨s, (M_iff h h1 h2).2 h3⟩
theorem R_lt (L : List Nat) (s : Nat) : R L s < 2 ^ (L.getD s 0) := rv_lt _ _
theorem R_lt15 {L : List Nat} (h : Good L) (s : Nat) : R L s < 32768 :=
  Nat.lt_of_lt_of_le (R_lt L s) (Nat.pow_le_pow_right (n := 2) (by omega) (h.le s))
theorem M_self {L : List Nat} {s : Nat} (hs : s < L.length) (h0 : L.getD s 0 ≠ 0) : M L (R L s) s := ⟨hs, h0, Nat.mod_eq_of_lt (R_lt L s)⟩
theorem M_mod {L : List Nat} {b s : Nat} (h : L.getD s 0 ≤ 10) : M L (b % 1024) s ↔ M L b s := by
  unfold M
  rw [show (1024 : Nat) = 2 ^ 10 from rfl, Nat.mod_mod_of_dvd _ (Nat.pow_dvd_pow 2 h)]

/-! ### how many more bits each primary index asks -/
def sbits (L : List Nat) : Nat → Nat → Nat
  | 0, _ => 0
  | k + 1, i => if 10 < L.getD k 0 ∧ R L k % 1024 = i then max (sbits L k i) (L.getD k 0 - 10) else sbits L k i
theorem sbits_le {L : List Nat} (h : ∀ s, L.getD s 0 ≤ 15) (i : Nat) : ∀ k, sbits L k i ≤ 5
  | 0 => by simp [sbits]
  | k + 1 => by
    have := sbits_le h i k
    have := h k
    rw [sbits]
    split <;> omega
theorem sbits_ge {L : List Nat} {s : Nat} (h : 10 < L.getD s 0) : ∀ k, s < k → L.getD s 0 - 10 ≤ sbits L k (R L s % 1024)
  | 0, hk => by omega
  | k + 1, hk => by
    rw [sbits]
    by_cases e : s = k
    · subst e
      rw [if_pos ⟨h, rfl⟩]
      omega
    · have := sbits_ge h k (by omega)
      split <;> omega
theorem sbits_from {L : List Nat} {i : Nat} : ∀ k, sbits L k i ≠ 0 → ∃ s, s < k ∧ 10 < L.getD s 0 ∧ R L s % 1024 = i
  | 0, h => by simp [sbits] at h
  | k + 1, h => by
    rw [sbits] at h
    split at h
    · rename_i hc
      exact ⟨k, by omega, hc⟩
    · obtain ⟨s, h1, h2⟩ := sbits_from k h
      exact ⟨s, by omega, h2⟩

/-! ### where each second-level table begins -/
def tsize (n : Nat) : Nat := if n = 0 then 0 else 2 ^ n
def off (sb : Nat → Nat) : Nat → Nat
  | 0 => 0
  | i + 1 => off sb i + tsize (sb i)
theorem off_mono (sb : Nat → Nat) {i j : Nat} (h : i ≤ j) : off sb i ≤ off sb j := by
  induction j with
  | zero =>
    obtain rfl : i = 0 := by omega
    exact Nat.le_refl _
  | succ j ih =>
    by_cases e : i = j + 1
    · subst e
      exact Nat.le_refl _
    · have := ih (by omega)
      rw [off]
      omega
theorem tsize_le {n : Nat} (h : n ≤ 5) : tsize n ≤ 32 := by
  unfold tsize
  split
  · omega
  · exact Nat.pow_le_pow_right (n := 2) (by omega) h
theorem off_le {sb : Nat → Nat} (h : ∀ i, sb i ≤ 5) : ∀ i, off sb i ≤ 32 * i
  | 0 => by simp [off]
  | i + 1 => by
    have := off_le h i
    have := tsize_le (h i)
    rw [off]
    omega
theorem off_in (sb : Nat → Nat) {i n : Nat} (hi : i < n) : off sb i + tsize (sb i) ≤ off sb n := by
  have := off_mono sb (show i + 1 ≤ n by omega)
  rw [off] at this
  exact this
theorem off_apart (sb : Nat → Nat) {i j x : Nat} (h1 : off sb i ≤ x) (h2 : x < off sb i + tsize (sb i)) (h3 : off sb j ≤ x) (h4 : x < off sb j + tsize (sb j)) : i = j := by
  by_cases a : i < j
  · have := off_in sb a
    omega
  · by_cases c : j < i
    · have := off_in sb c
      omega
    · omega

/-! ### the entries -/
def leaf (L V : List Nat) (s : Nat) : Nat := V.getD s 0 + L.getD s 0
def base (sb : Nat → Nat) (i : Nat) : Nat := if sb i = 0 then 2048 else off sb i * 65536 + 1024 + sb i
/-- values with no code length bits and no link flag -/
def Clear (V : List Nat) : Prop := ∀ s, V.getD s 0 % 16 = 0 ∧ V.getD s 0 / 1024 % 2 = 0

def prim (L V : List Nat) (sb : Nat → Nat) : Nat → Nat → Nat
  | 0, i => base sb i
  | k + 1, i => if L.getD k 0 ≠ 0 ∧ L.getD k 0 ≤ 10 ∧ i % 2 ^ (L.getD k 0) = R L k then leaf L V k else prim L V sb k i
abbrev inTab (L : List Nat) (sb : Nat → Nat) (k x : Nat) : Prop :=
  10 < L.getD k 0 ∧ off sb (R L k % 1024) ≤ x ∧ x < off sb (R L k % 1024) + tsize (sb (R L k % 1024)) ∧ (x - off sb (R L k % 1024)) % 2 ^ (L.getD k 0 - 10) = R L k / 1024
def second (L V : List Nat) (sb : Nat → Nat) : Nat → Nat → Nat
  | 0, x => 0
  | k + 1, x => if inTab L sb k x then leaf L V k else second L V sb k x

theorem prim_base {L V : List Nat} {sb : Nat → Nat} {i : Nat} : ∀ k, (∀ s, s < k → ¬ (L.getD s 0 ≠ 0 ∧ L.getD s 0 ≤ 10 ∧ i % 2 ^ (L.getD s 0) = R L s)) → prim L V sb k i = base sb i
  | 0, _ => rfl
  | k + 1, h => by
    rw [prim, if_neg (h k (by omega))]
    exact prim_base k (fun s hs => h s (by omega))
theorem prim_leaf {L V : List Nat} (h : Good L) {sb : Nat → Nat} {i s : Nat} (hm : M L i s) (hl : L.getD s 0 ≤ 10) : ∀ k, s < k → k ≤ L.length → prim L V sb k i = leaf L V s
  | 0, hk, _ => by omega
  | k + 1, hk, hn => by
    rw [prim]
    by_cases e : s = k
    · subst e
      rw [if_pos ⟨hm.2.1, hl, hm.2.2⟩]
    · rw [if_neg, prim_leaf h hm hl k (by omega) (by omega)]
      rintro ⟨h0, h1, h2⟩
      exact e (M_unique h hm ⟨by omega, h0, h2⟩)
/-- where the code of a long symbol k begins, the primary table still links -/
theorem prim_link {L V : List Nat} (h : Good L) {sb : Nat → Nat} {k j : Nat} (hk : k < L.length) (h10 : 10 < L.getD k 0) (hj : j ≤ L.length) : prim L V sb j (R L k % 1024) = base sb (R L k % 1024) := by
  refine prim_base j ?_
  rintro s hs ⟨h0, h1, h2⟩
  have hm : M L (R L k % 1024) s := ⟨by omega, h0, h2⟩
  have := M_unique h ((M_mod h1).1 hm) (M_self hk (by omega))
  subst this
  omega

theorem link_div {o n : Nat} (hn : n ≤ 5) : (o * 65536 + 1024 + n) / 65536 = o := by omega
theorem link_mod {o n : Nat} (hn : n ≤ 5) : (o * 65536 + 1024 + n) % 16 = n := by omega
theorem link_flag {o n : Nat} (hn : n ≤ 5) : (o * 65536 + 1024 + n) / 1024 % 2 = 1 := by omega
theorem leaf_flag {L V : List Nat} (h : Good L) (hV : Clear V) (s : Nat) : leaf L V s / 1024 % 2 = 0 := by
  have h1 := hV s
  have h2 := h.le s
  unfold leaf
  omega

def lookup (L V : List Nat) (sb : Nat → Nat) (b : Nat) : Nat :=
  if prim L V sb L.length (b % 1024) / 1024 % 2 = 0 then prim L V sb L.length (b % 1024)
  else second L V sb L.length (prim L V sb L.length (b % 1024) / 65536 + b / 1024 % 2 ^ (prim L V sb L.length (b % 1024) % 16))

theorem second_leaf {L V : List Nat} {sb : Nat → Nat} {x s : Nat} (hin : inTab L sb s x) (hu : ∀ s', s' < L.length → inTab L sb s' x → s' = s) : ∀ k, s < k → k ≤ L.length → second L V sb k x = leaf L V s
  | 0, hk, _ => by omega
  | k + 1, hk, hn => by
    rw [second]
    by_cases e : s = k
    · subst e
      rw [if_pos hin]
    · rw [if_neg (fun hc => e (hu k (by omega) hc).symm), second_leaf hin hu k (by omega) (by omega)]

theorem mod_two (b l : Nat) (h : 10 < l) : b % 2 ^ l = b / 1024 % 2 ^ (l - 10) * 1024 + b % 1024 := by
  rw [show l = 10 + (l - 10) by omega, Nat.pow_add, Nat.mod_mul, show (10 + (l - 10)) - 10 = l - 10 by omega, Nat.add_comm, Nat.mul_comm]
theorem mod_pow_mod (b : Nat) {a c : Nat} (h : a ≤ c) : b % 2 ^ c % 2 ^ a = b % 2 ^ a := Nat.mod_mod_of_dvd _ (Nat.pow_dvd_pow 2 h)

/-- WHERE THE CODE OF s BEGINS b: ITS LEAF -/
theorem lookup_of_M {L V : List Nat} (h : Good L) (hV : Clear V) {b s : Nat} (hm : M L b s) : lookup L V (sbits L L.length) b = leaf L V s := by
  unfold lookup
  by_cases hl : L.getD s 0 ≤ 10
  · rw [prim_leaf h ((M_mod hl).2 hm) hl L.length hm.1 (Nat.le_refl _), if_pos (leaf_flag h hV s)]
  · have h10 : 10 < L.getD s 0 := by omega
    have hR : R L s % 1024 = b % 1024 := by
      rw [← hm.2.2, mod_two b _ h10]
      omega
    have hR2 : R L s / 1024 = b / 1024 % 2 ^ (L.getD s 0 - 10) := by
      rw [← hm.2.2, mod_two b _ h10]
      omega
    have hp : prim L V (sbits L L.length) L.length (b % 1024) = base (sbits L L.length) (b % 1024) := by
      rw [← hR]
      exact prim_link h hm.1 h10 (Nat.le_refl _)
    have hge := sbits_ge h10 L.length hm.1
    rw [hR] at hge
    have hle := sbits_le h.le (b % 1024) L.length
    have hne : sbits L L.length (b % 1024) ≠ 0 := by omega
    rw [hp]
    unfold base
    rw [if_neg hne, link_flag hle, if_neg (by decide), link_div hle, link_mod hle]
    have hts : tsize (sbits L L.length (b % 1024)) = 2 ^ (sbits L L.length (b % 1024)) := by
      unfold tsize
      rw [if_neg hne]
    have hlt : b / 1024 % 2 ^ (sbits L L.length (b % 1024)) < 2 ^ (sbits L L.length (b % 1024)) := Nat.mod_lt _ (Nat.two_pow_pos _)
    have hin : ∀ s', s' < L.length → 10 < L.getD s' 0 → R L s' % 1024 = b % 1024 → (R L s' / 1024 = b / 1024 % 2 ^ (L.getD s' 0 - 10) ↔ inTab L (sbits L L.length) s' (off (sbits L L.length) (b % 1024) + b / 1024 % 2 ^ (sbits L L.length (b % 1024)))) := by
      intro s' hs' h10' hr'
      have hge' := sbits_ge h10' L.length hs'
      rw [hr'] at hge'
      unfold inTab
      rw [hr', hts, Nat.add_sub_cancel_left, mod_pow_mod _ hge']
      exact ⟨fun e => ⟨h10', by omega, by omega, e.symm⟩, fun e => e.2.2.2.symm⟩
    refine second_leaf ((hin s hm.1 h10 hR).1 hR2) ?_ L.length hm.1 (Nat.le_refl _)
    intro s' hs' ht
    have hi := off_apart (sbits L L.length) (i := R L s' % 1024) (j := b % 1024) ht.2.1 ht.2.2.1 (Nat.le_add_right _ _) (by rw [hts]; omega)
    have hd := (hin s' hs' ht.1 hi).2 ht
    refine M_unique h (b := b) ⟨hs', by have := ht.1; omega, ?_⟩ hm
    rw [mod_two b _ ht.1]
    omega
/-- WHERE NONE BEGINS IT -/
theorem lookup_none {L V : List Nat} (h : Good L) {b : Nat} (hn : ∀ s, ¬ M L b s) (hc : first L 15 + cnt L 15 = 2 ^ 15 ∨ ∀ s, L.getD s 0 ≤ 10) : lookup L V (sbits L L.length) b = 2048 := by
  rcases hc with hc | hc
  · obtain ⟨s, hs⟩ := M_exists h hc b
    exact absurd hs (hn s)
  · unfold lookup
    have hp : prim L V (sbits L L.length) L.length (b % 1024) = base (sbits L L.length) (b % 1024) := by
      refine prim_base L.length ?_
      rintro s hs ⟨h0, h1, h2⟩
      exact hn s ((M_mod h1).1 ⟨hs, h0, h2⟩)
    have h0 : sbits L L.length (b % 1024) = 0 := by
      by_cases e : sbits L L.length (b % 1024) = 0
      · exact e
      · obtain ⟨s, _, h10, _⟩ := sbits_from L.length e
        have := hc s
        omega
    rw [hp]
    unfold base
    rw [if_pos h0, if_pos (by decide)]
end Go.Proofs.Ybulkdlwq.huff
