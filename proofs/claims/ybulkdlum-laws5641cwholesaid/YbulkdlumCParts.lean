/- LawS5641CWhole: what a slice of int64 reads as; the plain law of 'isPrefix'. -/
import Derived.Test.YbulkdlumRows
import Derived.WalkKit
import Derived.WalkSpells
import Derived.Laws.CopyOwn
import Derived.BigQuiet
import Derived.Deep.QuietTactic
import Derived.WalkSmall
namespace Go.Proofs.Ybulkdlum.lawC
open Go.RowKit

theorem info2 : (Yba.prog.info? 2).map (fun i => (i.zero, i.size, i.bytes)) = some (some (.int .i64 0), 1, 8) := by kernel_rfl
theorem size2 : (Yba.prog.info? 2).map (·.size) = some 1 := by kernel_rfl

/-- The slice at 'a' of length n reads as zs. -/
def Row (w : World) (a : Option Addr) (n : Nat) (zs : List Int) : Prop :=
  zs.length = n ∧ (0 < n → ∃ b off, a = some ⟨b, off, none⟩ ∧ ∀ i, i < n → w.cell? ⟨b, off + i, none⟩ = some (.int .i64 (zs[i]?.getD 0)))

theorem Row.kept {w w' : World} {a : Option Addr} {n : Nat} {zs : List Int} (h : Row w a n zs) (hb : Below w.heap.size w w') : Row w' a n zs := by
  refine ⟨h.1, fun hn => ?_⟩
  obtain ⟨b, off, e, hc⟩ := h.2 hn
  exact ⟨b, off, e, fun i hi => cell_later hb (hc i hi)⟩

/-- A row of the call's own reads so. -/
theorem Row.own {w : World} {base : Nat} {a : Option Addr} {n cap : Nat} {zs : List Int} (h : w.ownsRow base 2 1 (.slice a n cap) n (zs.map (Value.int .i64))) : Row w a n zs := by
  have hl : zs.length = n := by simpa using h.1
  refine ⟨hl, fun hn => ?_⟩
  rcases h.2 with ⟨_, h0⟩ | ⟨g, cap', cur, hv, _⟩
  · omega
  · cases hv
    refine ⟨g, 0, rfl, fun i hi => ?_⟩
    have := h.cellAt i (by omega)
    rw [Nat.zero_add, this]
    simp [List.getElem?_eq_getElem (show i < zs.length by omega)]

/-- What a slice that the call owns looks like. -/
theorem own_shape {w : World} {base : Nat} {v : Value} {n : Nat} {xs : List Value} (h : w.ownsRow base 2 1 v n xs) :
    ∃ a cap, v = .slice a n cap ∧ (a = none → n = 0 ∧ cap = 0) ∧ n ≤ cap ∧ ∀ k, v.ownBlock = some k → base ≤ k := by
  rcases h.2 with ⟨rfl, rfl⟩ | ⟨g, cap, cur, rfl, hb, _, hc, _⟩
  · exact ⟨none, 0, rfl, fun _ => ⟨rfl, rfl⟩, Nat.le_refl _, fun k h => by cases h⟩
  · exact ⟨_, cap, rfl, fun h => (by cases h), hc, fun k h => by cases h; exact hb⟩

/-- xs begins ys -/
def pfx (xs ys : List Int) : Bool := decide (xs.length ≤ ys.length) && decide (∀ i, i < xs.length → xs[i]?.getD 0 = ys[i]?.getD 0)

theorem pfx_long {xs ys : List Int} (h : ys.length < xs.length) : pfx xs ys = false := by
  simp [pfx, Nat.not_le.2 h]
theorem pfx_yes {xs ys : List Int} (h : xs.length ≤ ys.length) (hk : ∀ i, i < xs.length → xs[i]?.getD 0 = ys[i]?.getD 0) : pfx xs ys = true := by
  simp only [pfx, Bool.and_eq_true, decide_eq_true_eq]; exact ⟨h, hk⟩
theorem pfx_no {xs ys : List Int} (k : Nat) (h : k < xs.length) (hk : ¬ xs[k]?.getD 0 = ys[k]?.getD 0) : pfx xs ys = false := by
  simp only [pfx, Bool.and_eq_false_iff, decide_eq_false_iff_not]
  exact .inr fun hh => hk (hh k h)
end Go.Proofs.Ybulkdlum.lawC
