/- LawS5645AWhole: rows of integers in memory. -/
import Derived.Test.YbulkdlwqRows
import Derived.Test.YbulkdlwqTable
import Derived.WalkKit
import Derived.WalkSpells
import Derived.WalkLawsBesides
import Derived.Below
import Derived.Deep.WholeRow
namespace Go.Proofs.Ybulkdlwq.huff
open Go.RowKit
set_option linter.unusedVariables false

/-- n integers of kind k, as an array of cells -/
def ofN (n : Nat) (k : IntKind) (f : Nat → Nat) : Array Value := ((List.range n).map fun i => Value.int k (f i : Nat)).toArray
theorem ofN_size (n : Nat) (k : IntKind) (f : Nat → Nat) : (ofN n k f).size = n := by simp [ofN]
theorem ofN_get (n : Nat) (k : IntKind) (f : Nat → Nat) (i : Nat) (h : i < n) : (ofN n k f)[i]? = some (.int k (f i : Nat)) := by
  simp [ofN, h]
theorem ofN_set (n : Nat) (k : IntKind) (f : Nat → Nat) (i v : Nat) (h : i < n) : (ofN n k f).setIfInBounds i (.int k (v : Nat)) = ofN n k (fun j => if j = i then v else f j) := by
  apply Array.ext_getElem?
  intro j
  rw [Array.getElem?_setIfInBounds, ofN_size]
  by_cases hj : j < n
  · rw [ofN_get _ _ _ j hj, ofN_get _ _ _ j hj]
    by_cases e : i = j
    · subst e
      simp [h]
    · rw [if_neg e]
      simp only [if_neg (fun x : j = i => e x.symm)]
  · have h1 : ∀ f, (ofN n k f)[j]? = none := fun f => by
      rw [Array.getElem?_eq_none_iff, ofN_size]
      omega
    rw [h1, h1, if_neg (by omega)]
theorem ofN_congr {n : Nat} {k : IntKind} {f g : Nat → Nat} (h : ∀ i, i < n → f i = g i) : ofN n k f = ofN n k g := by
  unfold ofN
  congr 1
  refine List.map_congr_left fun i hi => ?_
  rw [h i (List.mem_range.1 hi)]
theorem ofN_one (n : Nat) (k : IntKind) (f : Nat → Nat) : (ofN n k f).all (·.oneCell') = true := by
  rw [Array.all_eq_true]
  intro i hi
  simp [ofN, Value.oneCell']

/-- n integers of kind k lie from ⟨g, o⟩ on -/
def Rd (w : World) (g o n : Nat) (k : IntKind) (f : Nat → Nat) : Prop := ∀ i, i < n → w.cell? ⟨g, o + i, none⟩ = some (.int k (f i : Nat))
theorem Rd.below {w w' : World} {g o n B : Nat} {k : IntKind} {f : Nat → Nat} (h : Rd w g o n k f) (hb : Below B w w') (hg : g < B) : Rd w' g o n k f :=
  fun i hi => (hb.cell (p := ⟨g, o + i, none⟩) hg).trans (h i hi)
theorem Rd.later {w w' : World} {g o n : Nat} {k : IntKind} {f : Nat → Nat} (h : Rd w g o n k f) (hb : Below w.heap.size w w') : Rd w' g o n k f :=
  fun i hi => cell_later hb (h i hi)
theorem Rd.set {w : World} {g o n : Nat} {k : IntKind} {f : Nat → Nat} (h : Rd w g o n k f) {i v : Nat} (hi : i < n) : Rd (w.setCell ⟨g, o + i, none⟩ (.int k (v : Nat))) g o n k (fun j => if j = i then v else f j) := by
  intro j hj
  by_cases e : j = i
  · subst e
    rw [World.cell?_setCell_same _ _ _ (h j hj)]
    simp
  · rw [World.cell?_setCell_other _ _ _ _ (by simp <;> omega)]
    simp only [if_neg e]
    exact h j hj
theorem Rd.other {w : World} {g o n : Nat} {k : IntKind} {f : Nat → Nat} (h : Rd w g o n k f) {a : Addr} (ha : a.block ≠ g ∨ a.off < o ∨ o + n ≤ a.off) (v : Value) : Rd (w.setCell a v) g o n k f := by
  intro j hj
  rw [World.cell?_setCell_other _ _ _ _ (by rintro rfl; simp at ha; omega)]
  exact h j hj
theorem Rd.congr {w : World} {g o n : Nat} {k : IntKind} {f f' : Nat → Nat} (h : Rd w g o n k f) (e : ∀ i, i < n → f i = f' i) : Rd w g o n k f' := fun i hi => by rw [← e i hi]; exact h i hi
theorem Rd.of_new (w : World) (n : Nat) (k : IntKind) (f : Nat → Nat) (t : TypeId) : Rd (w.alloc (.cells (ofN n k f) t)) w.heap.size 0 n k f := by
  intro i hi
  rw [Nat.zero_add, cell_of_row _ _ i (ofN n k f) t (0, 0) (heap_alloc_last w _), ofN_get _ _ _ i hi]
end Go.Proofs.Ybulkdlwq.huff
