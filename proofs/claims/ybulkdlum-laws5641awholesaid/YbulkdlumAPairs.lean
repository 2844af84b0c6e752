/- LawS5641AWhole: the list of pairs that the law gathers. -/
import Derived.Test.YbulkdlumAFill
import Derived.Test.YbulkdlumAMap
namespace Go.Proofs.Ybulkdlum.lawA
open Go.RowKit
set_option linter.unusedVariables false

/-- one micro-operation met -/
def addP (acc : List KE) (m : Mop) : List KE := if m.r then acc else if acc.any (eqP (m.k, m.e)) then acc else acc ++ [(m.k, m.e)]
def pairsTo (segs : Nat → List Mop) : Nat → List KE
  | 0 => []
  | T + 1 => (segs T).foldl addP (pairsTo segs T)

theorem addP_read {acc : List KE} {m : Mop} (h : m.r = true) : addP acc m = acc := by simp [addP, h]
theorem addP_old {acc : List KE} {m : Mop} (h : m.r = false) (h2 : acc.any (eqP (m.k, m.e)) = true) : addP acc m = acc := by simp [addP, h, h2]
theorem addP_new {acc : List KE} {m : Mop} (h : m.r = false) (h2 : acc.any (eqP (m.k, m.e)) = false) : addP acc m = acc ++ [(m.k, m.e)] := by simp [addP, h, h2]
theorem addP_len (acc : List KE) (m : Mop) : (addP acc m).length ≤ acc.length + 1 := by
  unfold addP
  split
  · omega
  · split
    · omega
    · simp
theorem any_eqP {acc : List KE} {p : KE} : acc.any (eqP p) = true ↔ p ∈ acc := by
  rw [List.any_eq_true]
  constructor
  · rintro ⟨x, hx, he⟩
    rw [eqP_iff] at he
    subst he
    exact hx
  · intro h
    exact ⟨p, h, eqP_iff.2 rfl⟩
theorem addP_mem {acc : List KE} {m : Mop} {p : KE} : p ∈ addP acc m ↔ p ∈ acc ∨ hit p m = true := by
  unfold addP
  by_cases hr : m.r = true
  · rw [if_pos hr]
    simp [hit, hr]
  · rw [if_neg hr]
    have hr' : m.r = false := by simpa using hr
    have hh : hit p m = true ↔ p = (m.k, m.e) := by
      obtain ⟨a, b⟩ := p
      simp only [hit, hr', Bool.not_false, Bool.true_and, Bool.and_eq_true, beq_iff_eq, Prod.mk.injEq]
      exact ⟨fun h => ⟨h.1.symm, h.2.symm⟩, fun h => ⟨h.1.symm, h.2.symm⟩⟩
    by_cases ha : acc.any (eqP (m.k, m.e)) = true
    · rw [if_pos ha, hh]
      constructor
      · exact .inl
      · rintro (h | rfl)
        · exact h
        · exact any_eqP.1 ha
    · rw [if_neg ha, hh]
      simp
theorem addP_nodup {acc : List KE} {m : Mop} (h : acc.Nodup) : (addP acc m).Nodup := by
  unfold addP
  split
  · exact h
  · split
    · exact h
    · rename_i ha
      have : (m.k, m.e) ∉ acc := fun hm => ha (any_eqP.2 hm)
      rw [List.nodup_append]
      refine ⟨h, by simp, ?_⟩
      intro x hx y hy
      simp at hy
      subst hy
      exact fun e => this (e ▸ hx)
theorem fold_mem (p : KE) : ∀ (l : List Mop) (acc : List KE), p ∈ l.foldl addP acc ↔ p ∈ acc ∨ l.any (hit p) = true
  | [], acc => by simp
  | m :: l, acc => by
    rw [List.foldl_cons, fold_mem p l, addP_mem, List.any_cons]
    simp [or_assoc]
theorem fold_nodup : ∀ (l : List Mop) (acc : List KE), acc.Nodup → (l.foldl addP acc).Nodup
  | [], acc, h => h
  | m :: l, acc, h => fold_nodup l _ (addP_nodup h)
theorem fold_len : ∀ (l : List Mop) (acc : List KE), (l.foldl addP acc).length ≤ acc.length + l.length
  | [], acc => by simp
  | m :: l, acc => by
    have h1 := fold_len l (addP acc m)
    have h2 := addP_len acc m
    simp only [List.foldl_cons, List.length_cons]
    omega
theorem pairs_mem (segs : Nat → List Mop) (p : KE) : ∀ T, p ∈ pairsTo segs T ↔ (look segs p T).isSome = true
  | 0 => by simp [pairsTo, look]
  | T + 1 => by
    rw [pairsTo, fold_mem, pairs_mem segs p T, look_some, look_some]
    constructor
    · rintro (⟨t, ht, hh⟩ | hh)
      · exact ⟨t, by omega, hh⟩
      · exact ⟨T, by omega, hh⟩
    · rintro ⟨t, ht, hh⟩
      by_cases e : t = T
      · subst e
        exact .inr hh
      · exact .inl ⟨t, by omega, hh⟩
theorem pairs_nodup (segs : Nat → List Mop) : ∀ T, (pairsTo segs T).Nodup
  | 0 => List.nodup_nil
  | T + 1 => fold_nodup _ _ (pairs_nodup segs T)
theorem fold_next {S : List Mop} {i : Nat} {x : Mop} (acc : List KE) (hx : S[i]? = some x) : (S.take (i + 1)).foldl addP acc = addP ((S.take i).foldl addP acc) x := by
  rw [List.take_add_one, hx, List.foldl_append]
  rfl

theorem flat_snoc (xs : List KE) (p : KE) : xs.flatMap encP ++ encP p = (xs ++ [p]).flatMap encP := by simp
theorem ownsRow_below {w w' : World} {base : Nat} {e : TypeId} {size : Nat} {v : Value} {n : Nat} {xs : List Value} (h : w.ownsRow base e size v n xs) (hb : Below w.heap.size w w') : w'.ownsRow base e size v n xs := by
  obtain ⟨h1, h2⟩ := h
  refine ⟨h1, ?_⟩
  rcases h2 with h2 | ⟨g, cap, cur, hv, hg, hh, r⟩
  · exact .inl h2
  · exact .inr ⟨g, cap, cur, hv, hg, by rw [hb.block g (Array.getElem?_eq_some_iff.1 hh).1]; exact hh, r⟩

/-- THE PAIRS IN MEMORY: the slice value v holds acc, in a row of the call's own from block base on -/
structure Prs (w : World) (base : Nat) (a : Option Addr) (c : Nat) (acc : List KE) : Prop where
  own : w.ownsRow base 48 2 (.slice a acc.length c) acc.length (acc.flatMap encP)

theorem Prs.start (w : World) (base : Nat) : Prs w base none 0 [] := ⟨World.ownsRow_nil _ _ _ _⟩
theorem Prs.later {w w' : World} {base : Nat} {a : Option Addr} {c : Nat} {acc : List KE} (h : Prs w base a c acc) (hb : Below w.heap.size w w') : Prs w' base a c acc := ⟨ownsRow_below h.own hb⟩
theorem Prs.tab {w : World} {base : Nat} {a : Option Addr} {c : Nat} {acc : List KE} (h : Prs w base a c acc) : 0 < acc.length → ∃ g, a = some ⟨g, 0, none⟩ ∧ Tab w g 0 2 encP acc := by
  intro h0
  rcases h.own.2 with ⟨hv, hn⟩ | ⟨g, cap, cur, hv, r⟩
  · omega
  · cases hv
    exact ⟨g, rfl, Tab.of_row encP_len rfl h.own⟩
/-- behind an append -/
theorem Prs.push {w w' : World} {base : Nat} {v' : Value} {acc : List KE} {p : KE} (h : w'.ownsRow base 48 2 v' (acc.length + 1) (acc.flatMap encP ++ encP p)) : ∃ a c, v' = .slice a (acc.length + 1) c ∧ Prs w' base a c (acc ++ [p]) := by
  have hsh : ∃ a c, v' = .slice a (acc.length + 1) c := by
    rcases h.2 with ⟨rfl, hn⟩ | ⟨g, cap, cur, rfl, r⟩
    · omega
    · exact ⟨_, cap, rfl⟩
  obtain ⟨a, c, rfl⟩ := hsh
  rw [flat_snoc] at h
  exact ⟨a, c, rfl, ⟨by simpa using h⟩⟩
/-- a block that is no row of keyElements is not the pairs' own -/
theorem Prs.ne {w : World} {base : Nat} {a : Option Addr} {c : Nat} {acc : List KE} (h : Prs w base a c acc) {b : Nat} {cs : Array Value} {e : TypeId} (hb : w.heap[b]? = some (.cells cs e (0, 0))) (he : e ≠ 48) : some b ≠ (Value.slice a acc.length c).ownBlock := by
  rcases h.own.2 with ⟨hv, hn⟩ | ⟨g, cap, cur, hv, hg, hh, r⟩
  · rw [hv]
    simp [Value.ownBlock]
  · rw [hv]
    simp only [Value.ownBlock]
    intro e'
    have : b = g := Option.some.inj e'
    subst this
    rw [hh] at hb
    simp at hb
    exact he hb.2.symm
theorem Prs.base_le {w : World} {base : Nat} {a : Option Addr} {c : Nat} {acc : List KE} (h : Prs w base a c acc) : ∀ k, (Value.slice a acc.length c).ownBlock = some k → base ≤ k := fun k hk => (h.own.lt k hk).1

/-- as many keys as pairs -/
theorem mapAt_count {w : World} {b n : Nat} {segs : Nat → List Mop} {t : Nat} {ks : List KE} (h : MapAt w b n (fun p => look segs p t) ks) (hw : ∀ p, p ∈ pairsTo segs t → WF p) : ks.length = (pairsTo segs t).length := by
  obtain ⟨D, _, _, hnd, hks, hmem, _⟩ := h
  refine length_eq_of_same hnd (pairs_nodup segs t) (fun p => ?_)
  constructor
  · intro hp
    exact (pairs_mem segs p t).2 ((hmem p (hks p hp)).1 hp)
  · intro hp
    exact (hmem p (hw p hp)).2 ((pairs_mem segs p t).1 hp)
end Go.Proofs.Ybulkdlum.lawA
