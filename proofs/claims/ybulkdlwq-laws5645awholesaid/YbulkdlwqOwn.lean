/- LawS5645AWhole: rows of bytes that the call owns. -/
import Derived.Test.YbulkdlwqBlk
import Derived.OwnWalk
namespace Go.Proofs.Ybulkdlwq.huff
open Go.RowKit
set_option linter.unusedVariables false

def u8s (A : List Nat) : List Value := A.map fun x => Value.int .u8 (x : Nat)
theorem u8s_get (A : List Nat) (i : Nat) : (u8s A)[i]? = (A[i]?).map fun x => Value.int .u8 (x : Nat) := by simp [u8s]
theorem u8s_append (A B : List Nat) : u8s (A ++ B) = u8s A ++ u8s B := by simp [u8s]
/-- block g is the call's own (it lies from base on) and holds the bytes A, in room for cap -/
def Own (w : World) (base g cap : Nat) (A : List Nat) : Prop := w.ownsRow base 5 1 (.slice (some ⟨g, 0, none⟩) A.length cap) A.length (u8s A)
theorem Own.cell {w : World} {base g cap : Nat} {A : List Nat} (h : Own w base g cap A) {i a : Nat} (hi : A[i]? = some a) : w.cell? ⟨g, i, none⟩ = some (.int .u8 (a : Nat)) := by
  have hl := (List.getElem?_eq_some_iff.1 hi).1
  rw [World.ownsRow.cellAt h i (by omega), u8s_get, hi]
  rfl
theorem Own.rd {w : World} {base g cap : Nat} {A : List Nat} (h : Own w base g cap A) : Rd w g 0 A.length .u8 (fun i => A.getD i 0) := by
  intro i hi
  rw [Nat.zero_add, h.cell (List.getElem?_eq_getElem hi)]
  simp [List.getD_eq_getElem?_getD, List.getElem?_eq_getElem hi]
theorem Own.obj {w : World} {base g cap : Nat} {A : List Nat} (h : Own w base g cap A) : ∃ cur : Array Value, w.heap[g]? = some (.cells cur 5 (0, 0)) ∧ base ≤ g ∧ A.length ≤ cap ∧ cap ≤ maxLen ∧ cur.size = cap * 1 ∧ cur.toList.take (A.length * 1) = u8s A := by
  rcases h.2 with ⟨h0, _⟩ | ⟨g', cap', cur, hv, hg, hh, r1, r2, r3, r4⟩
  · cases h0
  · cases hv
    exact ⟨cur, hh, hg, r1, r2, r3, r4⟩
theorem Own.of_obj {w : World} {base g cap : Nat} {A : List Nat} {cur : Array Value} (h1 : w.heap[g]? = some (.cells cur 5 (0, 0))) (h2 : base ≤ g) (h3 : A.length ≤ cap) (h4 : cap ≤ maxLen) (h5 : cur.size = cap * 1) (h6 : cur.toList.take (A.length * 1) = u8s A) : Own w base g cap A :=
  ⟨by simp [u8s], .inr ⟨g, cap, cur, rfl, h2, h1, h3, h4, h5, h6⟩⟩
theorem Own.free {w : World} {base g cap : Nat} {A : List Nat} (h : Own w base g cap A) (i : Nat) : w.frozen? ⟨g, i, none⟩ = false := by
  obtain ⟨cur, h1, _⟩ := h.obj
  exact Blk.free (t := 5) (cs := cur) h1 i
theorem Own.lt {w : World} {base g cap : Nat} {A : List Nat} (h : Own w base g cap A) : g < w.heap.size := by
  obtain ⟨cur, h1, _⟩ := h.obj
  exact (Array.getElem?_eq_some_iff.1 h1).1
theorem Own.ge {w : World} {base g cap : Nat} {A : List Nat} (h : Own w base g cap A) : base ≤ g := by
  obtain ⟨cur, _, h1, _⟩ := h.obj
  exact h1
theorem Own.set {w : World} {base g cap : Nat} {A : List Nat} (h : Own w base g cap A) {i b : Nat} (hi : i < A.length) : Own (w.setCell ⟨g, i, none⟩ (.int .u8 (b : Nat))) base g cap (A.set i b) := by
  obtain ⟨cur, h1, h2, h3, h4, h5, h6⟩ := h.obj
  have hs : (w.setCell ⟨g, i, none⟩ (.int .u8 (b : Nat))).heap[g]? = some (.cells (cur.setIfInBounds i (.int .u8 (b : Nat))) 5 (0, 0)) := Blk.set (t := 5) (cs := cur) h1 i _
  refine Own.of_obj hs h2 (by simpa using h3) h4 (by simpa using h5) ?_
  rw [Array.toList_setIfInBounds, List.take_set, List.length_set, h6]
  simp [u8s, List.map_set]
theorem Own.other {w : World} {base g cap : Nat} {A : List Nat} (h : Own w base g cap A) {a : Addr} (ha : g ≠ a.block) (v : Value) : Own (w.setCell a v) base g cap A := by
  obtain ⟨cur, h1, h2, h3, h4, h5, h6⟩ := h.obj
  exact Own.of_obj (Blk.other (t := 5) (cs := cur) h1 ha v) h2 h3 h4 h5 h6
theorem Own.below {w w' : World} {base g cap B : Nat} {A : List Nat} (h : Own w base g cap A) (hb : Below B w w') (hg : g < B) : Own w' base g cap A := by
  obtain ⟨cur, h1, h2, h3, h4, h5, h6⟩ := h.obj
  exact Own.of_obj (Blk.below (t := 5) (cs := cur) h1 hb hg) h2 h3 h4 h5 h6
theorem Own.later {w w' : World} {base g cap : Nat} {A : List Nat} (h : Own w base g cap A) (hb : Below w.heap.size w w') : Own w' base g cap A := h.below hb h.lt
theorem Own.alloc {w : World} {base g cap : Nat} {A : List Nat} (h : Own w base g cap A) (o : Obj) : Own (w.alloc o) base g cap A := h.later ((Below.refl _ _).alloc (Nat.le_refl _) _)
theorem Own.new (w : World) (d : Nat) : Own (w.alloc (.cells #[.int .u8 (d : Nat)] 5)) w.heap.size w.heap.size 1 [d] :=
  Own.of_obj (heap_alloc_last w _) (Nat.le_refl _) (by simp) (by unfold maxLen; omega) rfl rfl
theorem Own.mono {w : World} {base base' g cap : Nat} {A : List Nat} (h : Own w base g cap A) (hb : base' ≤ base) : Own w base' g cap A := by
  obtain ⟨cur, h1, h2, h3, h4, h5, h6⟩ := h.obj
  exact Own.of_obj h1 (by omega) h3 h4 h5 h6
theorem Own.grown {w : World} {base d : Nat} {A : List Nat} {v : Value} (h : w.ownsRow base 5 1 v (A.length + 1) (u8s A ++ [.int .u8 (d : Nat)])) : ∃ g cap, v = .slice (some ⟨g, 0, none⟩) (A.length + 1) cap ∧ Own w base g cap (A ++ [d]) := by
  have h' := h
  rcases h.2 with ⟨_, h0⟩ | ⟨g, cap, cur, rfl, r⟩
  · omega
  · refine ⟨g, cap, rfl, ?_⟩
    unfold Own
    rw [u8s_append, List.length_append]
    exact h'
/-- where 'append' leaves all below the row and the new -/
theorem Below.grow {w w' : World} {B g : Nat} (hgr : w.grownBy w' (some g)) (hg : B ≤ g) (hB : B ≤ w.heap.size) : Below B w w' :=
  (Below.refl _ _).grown hgr hB (fun k h => by cases h; exact hg)
theorem news_one (w : World) (x : Value) (t : TypeId) (g : Nat) (hg : g = w.heap.size) : ∀ j u, [x][j]? = some u → (w.alloc (.cells #[x] t)).cell? ((⟨g, 0, none⟩ : Addr).add j) = some u := by
  intro j u hu
  subst hg
  cases j with
  | zero =>
    simp at hu
    subst hu
    rw [Addr.add_lit]
    exact cell_of_row _ _ 0 #[x] t (0, 0) (heap_alloc_last w _)
  | succ j => simp at hu
theorem ones_one (k : IntKind) (x : Int) : ∀ u ∈ [Value.int k x], u.oneCell' = true := by
  intro u hu
  simp at hu
  subst hu
  rfl
end Go.Proofs.Ybulkdlwq.huff
