/- LawS5645AWhole: whole blocks of integers. -/
import Derived.Test.YbulkdlwqMem
namespace Go.Proofs.Ybulkdlwq.huff
open Go.RowKit
set_option linter.unusedVariables false

/-- block g holds the cells cs, nothing of it frozen -/
def Blk (w : World) (g : Nat) (t : TypeId) (cs : Array Value) : Prop := w.heap[g]? = some (.cells cs t (0, 0))
theorem Blk.cell {w : World} {g : Nat} {t : TypeId} {cs : Array Value} (h : Blk w g t cs) (i : Nat) {v : Value} (hv : cs[i]? = some v) : w.cell? ⟨g, i, none⟩ = some v := by
  rw [cell_of_row _ _ i cs t (0, 0) h, hv]
theorem Blk.free {w : World} {g : Nat} {t : TypeId} {cs : Array Value} (h : Blk w g t cs) (i : Nat) : w.frozen? ⟨g, i, none⟩ = false := by
  have h' : w.heap[g]? = some (.cells cs t (0, 0)) := h
  simp [World.frozen?, h']
theorem Blk.lt {w : World} {g : Nat} {t : TypeId} {cs : Array Value} (h : Blk w g t cs) : g < w.heap.size := (Array.getElem?_eq_some_iff.1 h).1
theorem Blk.set {w : World} {g : Nat} {t : TypeId} {cs : Array Value} (h : Blk w g t cs) (i : Nat) (v : Value) : Blk (w.setCell ⟨g, i, none⟩ v) g t (cs.setIfInBounds i v) := by
  have h' : w.heap[g]? = some (.cells cs t (0, 0)) := h
  unfold Blk
  simp [World.setCell, Array.getElem?_modify, h']
theorem Blk.other {w : World} {g : Nat} {t : TypeId} {cs : Array Value} (h : Blk w g t cs) {a : Addr} (ha : g ≠ a.block) (v : Value) : Blk (w.setCell a v) g t cs :=
  (Below.heap_setCell w a v g ha).trans h
theorem Blk.below {w w' : World} {g B : Nat} {t : TypeId} {cs : Array Value} (h : Blk w g t cs) (hb : Below B w w') (hg : g < B) : Blk w' g t cs := (hb.block g hg).trans h
theorem Blk.later {w w' : World} {g : Nat} {t : TypeId} {cs : Array Value} (h : Blk w g t cs) (hb : Below w.heap.size w w') : Blk w' g t cs := h.below hb h.lt
theorem Blk.new (w : World) (cs : Array Value) (t : TypeId) : Blk (w.alloc (.cells cs t)) w.heap.size t cs := heap_alloc_last w _
theorem Blk.alloc {w : World} {g : Nat} {t : TypeId} {cs : Array Value} (h : Blk w g t cs) (o : Obj) : Blk (w.alloc o) g t cs := (Below.heap_alloc w o g h.lt).trans h
theorem Blk.int {w : World} {g n : Nat} {k : IntKind} {t : TypeId} {f : Nat → Nat} (h : Blk w g t (ofN n k f)) (i : Nat) (hi : i < n) : w.cell? ⟨g, i, none⟩ = some (.int k (f i : Nat)) := h.cell i (ofN_get _ _ _ _ hi)
theorem Blk.put {w : World} {g n : Nat} {k : IntKind} {t : TypeId} {f f' : Nat → Nat} (h : Blk w g t (ofN n k f)) (i v : Nat) (hi : i < n) (he : ∀ j, j < n → f' j = if j = i then v else f j) : Blk (w.setCell ⟨g, i, none⟩ (.int k (v : Nat))) g t (ofN n k f') := by
  have := h.set i (.int k (v : Nat))
  rw [ofN_set _ _ _ _ _ hi] at this
  rw [ofN_congr he]
  exact this
theorem Blk.to {w : World} {g n : Nat} {k : IntKind} {t : TypeId} {f f' : Nat → Nat} (h : Blk w g t (ofN n k f)) (he : ∀ j, j < n → f j = f' j) : Blk w g t (ofN n k f') := by rw [← ofN_congr he]; exact h
theorem Blk.rd {w : World} {g n : Nat} {k : IntKind} {t : TypeId} {f : Nat → Nat} (h : Blk w g t (ofN n k f)) : Rd w g 0 n k f := fun i hi => by rw [Nat.zero_add]; exact h.int i hi
end Go.Proofs.Ybulkdlwq.huff
