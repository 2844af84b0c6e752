/- LawS5641AWhole: the two slices of structs that come in, as tables. -/
import Derived.Test.YbulkdlumAMem
import Derived.Deep.Slices
import Derived.OpenShut
import Derived.RowKit
namespace Go.Proofs.Ybulkdlum.lawA
open Go.ChangeShapes Go.WideShapes Go.Deep Go.RowKit
set_option linter.unusedVariables false

section
variable {H : Type} {enc : TypeId × Value → H} {P : Program} {w : World} {base : Nat} {spare : Nat → Bool} {held : Bool}

theorem open_tab {α : Type} [Inhabited α] {t e : TypeId} {c fuel : Nat} {a : Option Addr} {len cap : Nat} {x : DataW H × List MemPlace} (ht : P.underlying t = some (.slice e)) (hc : P.cellsOf e = c) (hc0 : 0 < c)
    (en : α → List Value) (hen : ∀ x, (en x).length = c) (Q : α → Prop) (hE : ∀ n cs y, DataW.trod enc P w base spare held n e cs = some y → ∃ x, cs = en x ∧ Q x)
    (h : DataW.trod enc P w base spare held fuel t [.slice a len cap] = some x) :
    ∃ zs : List α, zs.length = len ∧ (∀ z ∈ zs, Q z) ∧ (0 < len → ∃ b off, a = some ⟨b, off, none⟩ ∧ Tab w b off c en zs) := by
  rcases open_slice ht h with ⟨hcs, _⟩ | ⟨a', len', cap', m, n, D, Pl, hcs, hb, hl, hm, hmm, rfl, hx⟩
  · simp only [List.cons.injEq, Value.slice.injEq, and_true] at hcs
    obtain ⟨_, rfl, _⟩ := hcs
    exact ⟨[], rfl, by simp, fun h => by omega⟩
  · simp only [List.cons.injEq, Value.slice.injEq, and_true] at hcs
    obtain ⟨rfl, rfl, rfl⟩ := hcs
    have hlm : len ≤ m := by rw [hmm]; split <;> omega
    rw [hc] at hx
    obtain ⟨f, hf⟩ := choose_lt (α := α) (n := len) (p := fun i z => w.cells? base (a'.add (i * c)) c = some (en z) ∧ Q z) (fun i hi => by
      obtain ⟨cs, h1, h2⟩ := hx i (by omega)
      obtain ⟨z, rfl, hq⟩ := hE _ _ _ h2
      exact ⟨z, h1, hq⟩)
    refine ⟨(List.range len).map f, by simp, ?_, ?_⟩
    · intro z hz
      obtain ⟨i, hi, rfl⟩ := List.mem_map.1 hz
      exact (hf i (List.mem_range.1 hi)).2
    · intro h0
      have hall : ∀ i, i < len → ∀ j, j < c → w.cell? (a'.add (i * c + j)) = (en (f i))[j]? := by
        intro i hi j hj
        obtain ⟨_, _, hcell⟩ := World.cells?_some (hf i hi).1
        rw [← add_add]
        exact hcell j hj
      obtain ⟨b, off, spot⟩ := a'
      have hspot : spot = none := by
        have := hall 0 h0 0 hc0
        rw [List.getElem?_eq_getElem (by rw [hen]; exact hc0)] at this
        simpa [Addr.add] using World.cell?_spot this
      subst hspot
      refine ⟨b, off, rfl, ?_⟩
      intro j z hz i v hv
      have hj : j < len := by
        have := (List.getElem?_eq_some_iff.1 hz).1
        simpa using this
      simp only [List.getElem?_map, List.getElem?_range hj, Option.map_some, Option.some.injEq] at hz
      subst hz
      have hi : i < c := by rw [← hen (f j)]; exact (List.getElem?_eq_some_iff.1 hv).1
      rw [Nat.add_assoc, ← add_plain, hall j hj i hi, hv]
end
end Go.Proofs.Ybulkdlum.lawA
