/- LawS5641AWhole: the plain mathematics: what indexAppends leaves in the map, what the model answers. No Go. -/
namespace Go.Proofs.Ybulkdlum.lawA

/-- a micro-operation: key, read, element -/
structure Mop where
  k : Int
  r : Bool
  e : Int

abbrev KE := Int × Int

/-- m appends p's element to p's key -/
def hit (p : KE) (m : Mop) : Bool := !m.r && (m.k == p.1 && m.e == p.2)
/-- m appends to key k -/
def app (k : Int) (m : Mop) : Bool := !m.r && m.k == k

/-- in a transaction: p's first append, and whether nothing is appended to its key behind it -/
def lastB (p : KE) : List Mop → Option Bool
  | [] => none
  | m :: rest => if hit p m then some (!(rest.any (app p.1))) else lastB p rest

/-- over the first T transactions: the last that appends p -/
def look (segs : Nat → List Mop) (p : KE) : Nat → Option (Nat × Bool)
  | 0 => none
  | T + 1 => match lastB p (segs T) with
    | some b => some (T, b)
    | none => look segs p T

/-- inside transaction T, its operations from some place on being done -/
def part (segs : Nat → List Mop) (p : KE) (T : Nat) (rest : List Mop) : Option (Nat × Bool) :=
  match lastB p rest with
  | some b => some (T, b)
  | none => look segs p T

theorem part_nil (segs : Nat → List Mop) (p : KE) (T : Nat) : part segs p T [] = look segs p T := rfl
theorem part_all (segs : Nat → List Mop) (p : KE) (T : Nat) : part segs p T (segs T) = look segs p (T + 1) := rfl

theorem part_read (segs : Nat → List Mop) (p : KE) (T : Nat) (m : Mop) (rest : List Mop) (h : m.r = true) : part segs p T (m :: rest) = part segs p T rest := by
  simp [part, lastB, hit, h]
theorem part_same (segs : Nat → List Mop) (T : Nat) (m : Mop) (rest : List Mop) (h : m.r = false) : part segs (m.k, m.e) T (m :: rest) = some (T, !(rest.any (app m.k))) := by
  simp [part, lastB, hit, h]
theorem part_other (segs : Nat → List Mop) (p : KE) (T : Nat) (m : Mop) (rest : List Mop) (h : p ≠ (m.k, m.e)) : part segs p T (m :: rest) = part segs p T rest := by
  have : hit p m = false := by
    unfold hit
    cases m.r
    · by_cases h1 : m.k = p.1
      · by_cases h2 : m.e = p.2
        · exact absurd (by rw [h1, h2]) h
        · simp [h2]
      · simp [h1]
    · simp
  simp [part, lastB, this]

/-- what 'seen' holds at key k: 1 + the last transaction met that appends to it -/
def seenAt (segs : Nat → List Mop) (k : Int) : Nat → Int
  | 0 => 0
  | T + 1 => if (segs T).any (app k) then (T : Int) + 1 else seenAt segs k T
def seenIn (segs : Nat → List Mop) (k : Int) (T : Nat) (rest : List Mop) : Int := if rest.any (app k) then (T : Int) + 1 else seenAt segs k T

theorem seenAt_le (segs : Nat → List Mop) (k : Int) : ∀ T, 0 ≤ seenAt segs k T ∧ seenAt segs k T ≤ T
  | 0 => by simp [seenAt]
  | T + 1 => by
    have := seenAt_le segs k T
    unfold seenAt
    split <;> omega
theorem seenIn_nil (segs : Nat → List Mop) (k : Int) (T : Nat) : seenIn segs k T [] = seenAt segs k T := by simp [seenIn]
theorem seenIn_all (segs : Nat → List Mop) (k : Int) (T : Nat) : seenIn segs k T (segs T) = seenAt segs k (T + 1) := rfl
theorem seenIn_read (segs : Nat → List Mop) (k : Int) (T : Nat) (m : Mop) (rest : List Mop) (h : m.r = true) : seenIn segs k T (m :: rest) = seenIn segs k T rest := by
  simp [seenIn, app, h]
theorem seenIn_same (segs : Nat → List Mop) (T : Nat) (m : Mop) (rest : List Mop) (h : m.r = false) : seenIn segs m.k T (m :: rest) = (T : Int) + 1 := by
  simp [seenIn, app, h]
theorem seenIn_other (segs : Nat → List Mop) (k : Int) (T : Nat) (m : Mop) (rest : List Mop) (h : k ≠ m.k) : seenIn segs k T (m :: rest) = seenIn segs k T rest := by
  have : (m.k == k) = false := by simp; exact fun e => h e.symm
  simp [seenIn, app, this]
/-- 'last' as the program reckons it -/
theorem seenIn_last (segs : Nat → List Mop) (k : Int) (T : Nat) (rest : List Mop) : (seenIn segs k T rest != (T : Int) + 1) = !(rest.any (app k)) := by
  have := seenAt_le segs k T
  unfold seenIn
  split
  · rename_i h
    simp [h]
  · rename_i h
    simp [h]
    omega

/-- p is appended somewhere -/
theorem lastB_some (p : KE) : ∀ l : List Mop, (lastB p l).isSome = l.any (hit p)
  | [] => rfl
  | m :: rest => by
    unfold lastB
    cases hm : hit p m
    · simp [hm, lastB_some p rest]
    · simp [hm]
theorem look_some (segs : Nat → List Mop) (p : KE) : ∀ T, (look segs p T).isSome = true ↔ ∃ t, t < T ∧ (segs t).any (hit p) = true
  | 0 => by simp [look]
  | T + 1 => by
    have ih := look_some segs p T
    have hl := lastB_some p (segs T)
    unfold look
    cases h : lastB p (segs T) with
    | some b =>
      rw [h] at hl
      simp only [Option.isSome_some, true_iff]
      exact ⟨T, by omega, by simpa using hl.symm⟩
    | none =>
      rw [h] at hl
      simp only [ih]
      constructor
      · rintro ⟨t, ht, hh⟩
        exact ⟨t, by omega, hh⟩
      · rintro ⟨t, ht, hh⟩
        by_cases e : t = T
        · subst e
          rw [hh] at hl
          cases hl
        · exact ⟨t, by omega, hh⟩

/-- two lists without repeats and with the same members are equally long -/
theorem length_le_of_subset {α : Type} [DecidableEq α] : ∀ (l l' : List α), l.Nodup → (∀ x ∈ l, x ∈ l') → l.length ≤ l'.length
  | [], _, _, _ => Nat.zero_le _
  | a :: l, l', hn, hs => by
    have ha : a ∈ l' := hs a (by simp)
    have hn' := List.nodup_cons.1 hn
    have ih := length_le_of_subset l (l'.erase a) hn'.2 (fun x hx => by
      have hne : x ≠ a := fun e => hn'.1 (e ▸ hx)
      exact (List.mem_erase_of_ne hne).2 (hs x (by simp [hx])))
    rw [List.length_erase_of_mem ha] at ih
    have := List.length_pos_of_mem ha
    simp only [List.length_cons]
    omega
theorem length_eq_of_same {α : Type} [DecidableEq α] {l l' : List α} (h1 : l.Nodup) (h2 : l'.Nodup) (h : ∀ x, x ∈ l ↔ x ∈ l') : l.length = l'.length :=
  Nat.le_antisymm (length_le_of_subset l l' h1 (fun x hx => (h x).1 hx)) (length_le_of_subset l' l h2 (fun x hx => (h x).2 hx))
end Go.Proofs.Ybulkdlum.lawA
