/- LawS5641AWhole: rows that the law itself fills, an element a round. -/
import Derived.Test.YbulkdlumALib
namespace Go.Proofs.Ybulkdlum.lawA
open Go.RowKit
set_option linter.unusedVariables false

/-- block g: the elements xs lie there, k cells each; there is room for N; nothing of it is frozen -/
structure Fill {α : Type} (w : World) (g k N : Nat) (enc : α → List Value) (xs : List α) : Prop where
  tab : Tab w g 0 k enc xs
  room : ∀ o, o < N * k → ∃ v, w.cell? ⟨g, o, none⟩ = some v
  free : ∀ o, w.frozen? ⟨g, o, none⟩ = false

/-- a run of stores from place o on -/
def stores (w : World) (g o : Nat) : List Value → World
  | [] => w
  | v :: vs => stores (w.setCell ⟨g, o, none⟩ v) g (o + 1) vs

theorem stores_other (g : Nat) : ∀ (vs : List Value) (w : World) (o : Nat) (a : Addr), (a.block ≠ g ∨ a.off < o ∨ o + vs.length ≤ a.off) → (stores w g o vs).cell? a = w.cell? a
  | [], w, o, a, _ => rfl
  | v :: vs, w, o, a, h => by
    simp only [List.length_cons] at h
    show (stores (w.setCell ⟨g, o, none⟩ v) g (o + 1) vs).cell? a = _
    rw [stores_other g vs _ (o + 1) a (by omega)]
    exact World.cell?_setCell_other _ _ _ _ (by
      intro e
      rw [← e] at h
      simp at h
      omega)
theorem stores_at (g : Nat) : ∀ (vs : List Value) (w : World) (o : Nat), (∀ i, i < vs.length → ∃ v, w.cell? ⟨g, o + i, none⟩ = some v) → ∀ (i : Nat) (v : Value), vs[i]? = some v → (stores w g o vs).cell? ⟨g, o + i, none⟩ = some v
  | [], w, o, _, i, v, hv => by simp at hv
  | x :: vs, w, o, h, 0, v, hv => by
    simp at hv
    subst hv
    show (stores (w.setCell ⟨g, o, none⟩ x) g (o + 1) vs).cell? _ = _
    rw [stores_other g vs _ (o + 1) _ (by simp)]
    obtain ⟨u, hu⟩ := h 0 (by simp)
    exact World.cell?_setCell_same _ _ _ hu
  | x :: vs, w, o, h, i + 1, v, hv => by
    show (stores (w.setCell ⟨g, o, none⟩ x) g (o + 1) vs).cell? _ = _
    have := stores_at g vs (w.setCell ⟨g, o, none⟩ x) (o + 1) (fun j hj => by
      obtain ⟨u, hu⟩ := h (j + 1) (by simp; omega)
      rw [World.cell?_setCell_other _ _ _ _ (by simp <;> omega), show o + 1 + j = o + (j + 1) by omega]
      exact ⟨u, hu⟩) i v (by simpa using hv)
    rw [show o + (i + 1) = o + 1 + i by omega]
    exact this
theorem stores_some (g : Nat) : ∀ (vs : List Value) (w : World) (o : Nat) (a : Addr), (∃ v, w.cell? a = some v) → ∃ v, (stores w g o vs).cell? a = some v
  | [], w, o, a, h => h
  | x :: vs, w, o, a, h => by
    obtain ⟨v, hv⟩ := h
    refine stores_some g vs _ (o + 1) a ?_
    by_cases e : a = ⟨g, o, none⟩
    · subst e
      exact ⟨x, World.cell?_setCell_same _ _ _ hv⟩
    · exact ⟨v, by rw [World.cell?_setCell_other _ _ _ _ (fun h => e h.symm)]; exact hv⟩
theorem stores_free (g : Nat) : ∀ (vs : List Value) (w : World) (o : Nat) (a : Addr), (stores w g o vs).frozen? a = w.frozen? a
  | [], w, o, a => rfl
  | x :: vs, w, o, a => by
    show (stores (w.setCell ⟨g, o, none⟩ x) g (o + 1) vs).frozen? a = _
    rw [stores_free g vs]
    exact World.frozen?_setCell _ _ _ _
theorem stores_below (g B : Nat) (hB : B ≤ g) : ∀ (vs : List Value) (w w0 : World) (o : Nat), Below B w0 w → Below B w0 (stores w g o vs)
  | [], w, w0, o, h => h
  | x :: vs, w, w0, o, h => stores_below g B hB vs _ w0 (o + 1) (h.setCell (by simpa using hB) _)

theorem Fill.step {α : Type} {w : World} {g k N : Nat} {enc : α → List Value} {xs : List α} (h : Fill w g k N enc xs) (hk : ∀ x, (enc x).length = k) (x : α) (hN : xs.length < N) :
    Fill (stores w g (xs.length * k) (enc x)) g k N enc (xs ++ [x]) where
  tab := by
    intro j y hj i v hi
    have hik : i < k := by have := (List.getElem?_eq_some_iff.1 hi).1; rw [hk] at this; exact this
    have hle : xs.length * k + k ≤ N * k := by rw [← Nat.succ_mul]; exact Nat.mul_le_mul_right k hN
    by_cases e : j < xs.length
    · rw [List.getElem?_append_left e] at hj
      have hlt : j * k + k ≤ xs.length * k := by rw [← Nat.succ_mul]; exact Nat.mul_le_mul_right k e
      rw [stores_other g _ _ _ _ (by simp; omega)]
      exact h.tab j y hj i v hi
    · have ej : j = xs.length := by
        have := (List.getElem?_eq_some_iff.1 hj).1
        simp at this
        omega
      subst ej
      simp at hj
      subst hj
      rw [Nat.zero_add]
      exact stores_at g (enc x) w (xs.length * k) (fun i' hi' => h.room _ (by rw [hk] at hi'; omega)) i v hi
  room := fun o ho => stores_some g _ _ _ _ (h.room o ho)
  free := fun o => (stores_free g _ _ _ _).trans (h.free o)

theorem Fill.below {α : Type} {w w' : World} {g k N B : Nat} {enc : α → List Value} {xs : List α} (h : Fill w g k N enc xs) (hb : Below B w w') (hg : g < B) : Fill w' g k N enc xs where
  tab := h.tab.below hb hg
  room := fun o ho => by rw [hb.cell (p := ⟨g, o, none⟩) hg]; exact h.room o ho
  free := fun o => (hb.frozen (p := ⟨g, o, none⟩) hg).trans (h.free o)

theorem Fill.made {α : Type} {w : World} {g k N base : Nat} {e : TypeId} {enc : α → List Value} {cs : List Value} (h : w.ownsRow base e k (.slice (some ⟨g, 0, none⟩) N N) N cs) : Fill w g k N enc ([] : List α) where
  tab := fun j x hj => by simp at hj
  room := fun o ho => by
    have := h.cellAt o ho
    obtain ⟨v, hv⟩ : ∃ v, cs[o]? = some v := ⟨_, List.getElem?_eq_getElem (by rw [h.1]; exact ho)⟩
    exact ⟨v, by rw [this, hv]⟩
  free := fun o => h.frozenAt o
theorem Fill.drew {α : Type} {w : World} {g k N : Nat} {enc : α → List Value} {xs : List α} (h : Fill w g k N enc xs) : Fill w.drew g k N enc xs := ⟨h.tab, h.room, h.free⟩
theorem stores_size (g : Nat) : ∀ (vs : List Value) (w : World) (o : Nat), (stores w g o vs).heap.size = w.heap.size
  | [], w, o => rfl
  | x :: vs, w, o => by
    show (stores (w.setCell ⟨g, o, none⟩ x) g (o + 1) vs).heap.size = _
    rw [stores_size g vs]
    simp [World.setCell]
theorem stores_lt {w : World} {B : Nat} (g : Nat) (vs : List Value) (o : Nat) (h : B < w.heap.size) : B < (stores w g o vs).drew.heap.size := by
  have e : (stores w g o vs).drew.heap.size = w.heap.size := stores_size g vs w o
  rw [e]
  exact h
theorem Fill.alloc {α : Type} {w : World} {g k N : Nat} {enc : α → List Value} {xs : List α} (h : Fill w g k N enc xs) (hg : g < w.heap.size) (o : Obj) : Fill (w.alloc o) g k N enc xs := h.below ((Below.refl _ _).alloc (Nat.le_refl _) o) hg
theorem Fill.stepAlloc {α : Type} {w : World} {g k N : Nat} {enc : α → List Value} {xs : List α} (h : Fill w g k N enc xs) (hk : ∀ x, (enc x).length = k) (x : α) (hN : xs.length < N) (hg : g < w.heap.size) (o : Obj) :
    Fill ((stores w g (xs.length * k) (enc x)).alloc o) g k N enc (xs ++ [x]) := (h.step hk x hN).alloc (by rw [stores_size]; exact hg) o
theorem stores_below_alloc {g B : Nat} (hB : B ≤ g) (vs : List Value) {w w0 : World} (o : Nat) (h : Below B w0 w) (hw : B ≤ w.heap.size) (ob : Obj) : Below B w0 ((stores w g o vs).alloc ob) :=
  (stores_below g B hB vs w w0 o h).alloc (by rw [stores_size]; exact hw) ob
theorem stores_lt_alloc {w : World} {B : Nat} (g : Nat) (vs : List Value) (o : Nat) (h : B < w.heap.size) (ob : Obj) : B < ((stores w g o vs).alloc ob).heap.size := by
  have e : ((stores w g o vs).alloc ob).heap.size = (stores w g o vs).heap.size + 1 := by simp
  rw [e, stores_size]
  omega
end Go.Proofs.Ybulkdlum.lawA
