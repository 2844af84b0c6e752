/- LawS5641AWhole: rows of structs in memory. -/
import Derived.Test.YbulkdlumRows
import Derived.Test.YbulkdlumAPlain
import Derived.WalkKit
import Derived.WalkSpells
import Derived.WalkLawsBesides
import Derived.BigQuiet
import Derived.Deep.QuietTactic
namespace Go.Proofs.Ybulkdlum.lawA
open Go.RowKit
set_option linter.unusedVariables false

/-- from ⟨g, off⟩ on lie the elements xs, k cells each -/
def Tab {α : Type} (w : World) (g off k : Nat) (enc : α → List Value) (xs : List α) : Prop :=
  ∀ (j : Nat) (x : α), xs[j]? = some x → ∀ (i : Nat) (v : Value), (enc x)[i]? = some v → w.cell? ⟨g, off + j * k + i, none⟩ = some v

def encM (m : Mop) : List Value := [.int .i64 m.k, .bool m.r, .bool false, .int .i64 m.e, .int .i64 0, .int .i64 0]
def encT (t : Nat × Nat) : List Value := [.string ⟨#[]⟩, .int .u8 0, .int .i64 t.1, .int .i64 t.2]
def encL (i : Nat) : List Value := [.string ⟨#[]⟩, .int .i64 i, .bool false]
def encP (p : KE) : List Value := [.int .i64 p.1, .int .i64 p.2]

theorem Tab.below {α : Type} {w w' : World} {g off k B : Nat} {enc : α → List Value} {xs : List α} (h : Tab w g off k enc xs) (hb : Below B w w') (hg : g < B) : Tab w' g off k enc xs :=
  fun j x hj i v hi => (hb.cell (p := ⟨g, off + j * k + i, none⟩) hg).trans (h j x hj i v hi)
theorem Tab.later {α : Type} {w w' : World} {g off k : Nat} {enc : α → List Value} {xs : List α} (h : Tab w g off k enc xs) (hb : Below w.heap.size w w') : Tab w' g off k enc xs :=
  fun j x hj i v hi => cell_later hb (h j x hj i v hi)

theorem Tab.mop {w : World} {g off : Nat} {xs : List Mop} (h : Tab w g off 6 encM xs) (j : Nat) (hj : j < xs.length) :
    w.cell? ⟨g, off + j * 6, none⟩ = some (.int .i64 xs[j].k) ∧ w.cell? ⟨g, off + j * 6 + 1, none⟩ = some (.bool xs[j].r) ∧ w.cell? ⟨g, off + j * 6 + 2, none⟩ = some (.bool false) ∧
    w.cell? ⟨g, off + j * 6 + 3, none⟩ = some (.int .i64 xs[j].e) ∧ w.cell? ⟨g, off + j * 6 + 4, none⟩ = some (.int .i64 0) ∧ w.cell? ⟨g, off + j * 6 + 5, none⟩ = some (.int .i64 0) := by
  have hx := List.getElem?_eq_getElem hj
  exact ⟨h j _ hx 0 _ rfl, h j _ hx 1 _ rfl, h j _ hx 2 _ rfl, h j _ hx 3 _ rfl, h j _ hx 4 _ rfl, h j _ hx 5 _ rfl⟩
theorem Tab.txn {w : World} {g off : Nat} {xs : List (Nat × Nat)} (h : Tab w g off 4 encT xs) (j : Nat) (hj : j < xs.length) :
    w.cell? ⟨g, off + j * 4, none⟩ = some (.string ⟨#[]⟩) ∧ w.cell? ⟨g, off + j * 4 + 1, none⟩ = some (.int .u8 0) ∧ w.cell? ⟨g, off + j * 4 + 2, none⟩ = some (.int .i64 (xs[j].1 : Nat)) ∧
    w.cell? ⟨g, off + j * 4 + 3, none⟩ = some (.int .i64 (xs[j].2 : Nat)) := by
  have hx := List.getElem?_eq_getElem hj
  exact ⟨h j _ hx 0 _ rfl, h j _ hx 1 _ rfl, h j _ hx 2 _ rfl, h j _ hx 3 _ rfl⟩
end Go.Proofs.Ybulkdlum.lawA
