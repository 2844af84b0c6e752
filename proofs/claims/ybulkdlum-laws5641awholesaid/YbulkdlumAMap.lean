/- LawS5641AWhole: the map keyed by keyElement: what it reads as. -/
import Derived.Test.YbulkdlumAMem
import Derived.Maps.Own
import Derived.Maps.OwnOps
import Derived.Maps.OwnSet
import Derived.Maps.Views
import Derived.DeepKeys4
namespace Go.Proofs.Ybulkdlum.lawA
open Go.RowKit Go.Maps
set_option linter.unusedVariables false

theorem laidOut : laidOutB Yba.prog = true := by kernel_rfl
theorem law : Keyed Yba.prog 48 := Keyed.of_law (deep_law_laid laidOut (m := 2) (by omega) (of_decide_eq_true (by kernel_rfl)) (by kernel_rfl) (by kernel_rfl))

def keyV (p : KE) : Value := .agg #[.int .i64 p.1, .int .i64 p.2]
def WF (p : KE) : Prop := (Lit.int .i64 p.1).wf = true ∧ (Lit.int .i64 p.2).wf = true
/-- what a key reads as -/
def kl (p : KE) : Lit := .string (keyBytes [.int .i64 p.1, .int .i64 p.2])

theorem key48 : Yba.prog.keyType 48 = true := by kernel_rfl
theorem form48 (a b : Value) : Value.formed Yba.prog 48 (.agg #[a, b]) = true := by kernel_rfl
theorem cells48 : Yba.prog.cellsOf 48 = 2 := by kernel_rfl
theorem cells3 : Yba.prog.cellsOf 3 = 1 := by kernel_rfl
theorem cells2 : Yba.prog.cellsOf 2 = 1 := by kernel_rfl
theorem lits48 (d : Nat) (a b : Int) (ha : (Lit.int .i64 a).wf = true) (hb : (Lit.int .i64 b).wf = true) : Yba.prog.keyLits (d + 2) 48 [.int .i64 a, .int .i64 b] = some [.int .i64 a, .int .i64 b] := by
  have h3 : Yba.prog.keyLits (d + 1) 3 [.int .i64 a] = some [.int .i64 a] := by simp [Program.keyLits, Yba.underlying3, ha]
  have h2 : Yba.prog.keyLits (d + 1) 2 [.int .i64 b] = some [.int .i64 b] := by simp [Program.keyLits, Yba.underlying2, hb]
  unfold Program.keyLits
  rw [Yba.underlying48]
  simp [cells48, cells3, cells2, h3, h2]
theorem size48 : Yba.prog.types.size + 1 = 97 + 2 := by kernel_rfl
theorem keyOf_mk {p : KE} (h : WF p) : keyOf Yba.prog 48 (keyV p) = some (kl p) := by
  unfold keyOf keyV kl
  rw [Yba.underlying48]
  simp only [key48, form48, Value.cells]
  rw [size48]
  simp only [Bool.and_self, if_true]
  rw [lits48 97 p.1 p.2 h.1 h.2]
  rfl
theorem kl_inj {p q : KE} (hp : WF p) (hq : WF q) (h : kl p = kl q) : p = q := by
  have := law.inj (keyOf_mk hp) (by rw [h]; exact keyOf_mk hq)
  simp [keyV] at this
  exact Prod.ext this.1 this.2
theorem kl_key {p : KE} (hp : WF p) : WideAt.IsKeyLit (kl p) := law.key (keyOf_mk hp)

/-- what an elementAppend reads as -/
def eaElem : Value → Option (DataW Unit × List MemPlace)
  | .agg ⟨[.int .i64 a, .int .i64 b, .bool c]⟩ => some (.agg [.lit (.int .i64 a), .lit (.int .i64 b), .lit (.bool c)], [])
  | _ => none
def eaV (t at_ : Int) (l : Bool) : Value := .agg #[.int .i64 t, .int .i64 at_, .bool l]
def eaD (t at_ : Int) (l : Bool) : DataW Unit := .agg [.lit (.int .i64 t), .lit (.int .i64 at_), .lit (.bool l)]
theorem eaElem_mk (t a : Int) (l : Bool) : eaElem (eaV t a l) = some (eaD t a l, []) := rfl
theorem eaElem_inv {v : Value} {t a : Int} {l : Bool} {ps : List MemPlace} (h : eaElem v = some (eaD t a l, ps)) : v = eaV t a l := by
  unfold eaElem at h
  split at h
  · simp only [eaD, Option.some.injEq, Prod.mk.injEq, DataW.agg.injEq, List.cons.injEq, DataW.lit.injEq, Lit.int.injEq, Lit.bool.injEq, true_and, and_true] at h
    obtain ⟨⟨rfl, rfl, rfl⟩, _⟩ := h
    rfl
  · cases h

/-- what the map holds at p -/
def datOf (x : Option (Nat × Bool)) (z : DataW Unit) : DataW Unit := match x with
  | some y => eaD y.1 (-1) y.2
  | none => z

/-- BLOCK b IS A MAP OF AT MOST n ENTRIES THAT HOLDS, AT EACH KEY p, WHAT L SAYS; ks: its keys -/
def MapAt (w : World) (b n : Nat) (L : KE → Option (Nat × Bool)) (ks : List KE) : Prop :=
  ∃ D : DataW Unit, w.ownsMap Yba.prog 48 eaElem b n D ∧ (∀ p, WF p → ∀ z, D.atKey (kl p) z = datOf (L p) z) ∧ ks.Nodup ∧ (∀ p ∈ ks, WF p) ∧ (∀ p, WF p → (p ∈ ks ↔ (L p).isSome = true)) ∧ Maps.size D = ks.length

theorem MapAt.congr {w : World} {b n : Nat} {L L' : KE → Option (Nat × Bool)} {ks : List KE} (h : MapAt w b n L ks) (hL : ∀ p, L p = L' p) : MapAt w b n L' ks := by
  obtain rfl : L = L' := funext hL
  exact h
theorem MapAt.mono {w : World} {b n n' : Nat} {L : KE → Option (Nat × Bool)} {ks : List KE} (h : MapAt w b n L ks) (hn : n ≤ n') : MapAt w b n' L ks := by
  obtain ⟨D, h1, h2⟩ := h
  exact ⟨D, h1.mono hn, h2⟩
theorem MapAt.kept {w w' : World} {b n : Nat} {L : KE → Option (Nat × Bool)} {ks : List KE} {row : Option Nat} (h : MapAt w b n L ks) (hg : w.grownBy w' row) (hne : some b ≠ row) : MapAt w' b n L ks := by
  obtain ⟨D, h1, h2⟩ := h
  exact ⟨D, h1.kept hg hne, h2⟩
theorem MapAt.setCell {w : World} {b n : Nat} {L : KE → Option (Nat × Bool)} {ks : List KE} (h : MapAt w b n L ks) {a : Addr} (ha : b ≠ a.block) (u : Value) : MapAt (w.setCell a u) b n L ks := by
  obtain ⟨D, h1, h2⟩ := h
  exact ⟨D, h1.setCell ha u, h2⟩
theorem MapAt.made (w : World) : MapAt (w.alloc (.map #[] 0)) w.heap.size 0 (fun _ => none) [] :=
  ⟨.map [], World.ownsMap_made _ _ _ _, fun p hp z => rfl, List.nodup_nil, fun p hp => (by simp at hp), fun p _ => (by simp), rfl⟩
theorem MapAt.below {w w' : World} {b n B : Nat} {L : KE → Option (Nat × Bool)} {ks : List KE} (h : MapAt w b n L ks) (hb : Below B w w') (hB : b < B) : MapAt w' b n L ks := by
  obtain ⟨D, ⟨es, clock, hh, r⟩, h2⟩ := h
  exact ⟨D, ⟨es, clock, by rw [hb.block b hB]; exact hh, r⟩, h2⟩

theorem has_of {D : DataW Unit} {p : KE} {x : Option (Nat × Bool)} (h : ∀ z, D.atKey (kl p) z = datOf x z) : Maps.has D (kl p) = x.isSome := by
  cases x with
  | none => exact Maps.has_false_of_atKey (fun z => h z)
  | some y => exact Maps.has_true_of_atKey (fun z => h z)

/-- 'm[p] = elementAppend{t, -1, l}' -/
theorem MapAt.store {w : World} {b n : Nat} {L : KE → Option (Nat × Bool)} {ks : List KE} (h : MapAt w b n L ks) {p : KE} (hp : WF p) (hn : n < maxLen) (t : Nat) (l : Bool) :
    ∃ w', (Instr.mapUpdate 52 (.map (some b)) (keyV p) (eaV t (-1) l)).run Yba.prog w = .ok () w' ∧ (∃ ks', MapAt w' b (n + 1) (fun q => if q = p then some (t, l) else L q) ks') ∧ w.grownBy w' (some b) := by
  obtain ⟨D, hown, hat, hnd, hks, hmem, hsz⟩ := h
  obtain ⟨w', hrun, hown', hg⟩ := hown.update law Yba.underlying52 hn (keyOf_mk hp) (eaElem_mk t (-1) l)
  have hsp := Maps.size_put (k := kl p) (hown.tidy law) (eaD t (-1) l)
  have hat' : ∀ q, WF q → ∀ z, (D.put (kl p) (eaD t (-1) l)).atKey (kl q) z = datOf (if q = p then some (t, l) else L q) z := by
    intro q hq z
    by_cases e : q = p
    · subst e
      rw [if_pos rfl, Maps.atKey_put_same hown.isMap (kl_key hp)]
      rfl
    · rw [if_neg e, Maps.atKey_put_other (fun h => e (kl_inj hq hp h))]
      exact hat q hq z
  refine ⟨w', hrun, ?_, hg⟩
  rw [has_of (hat p hp)] at hsp
  by_cases hin : (L p).isSome = true
  · refine ⟨ks, _, hown', hat', hnd, hks, fun q hq => ?_, by rw [hsp, if_pos hin, hsz]⟩
    show q ∈ ks ↔ (if q = p then some (t, l) else L q).isSome = true
    by_cases e : q = p
    · subst e
      rw [if_pos rfl, hmem q hq]
      simp [hin]
    · rw [if_neg e]
      exact hmem q hq
  · refine ⟨p :: ks, _, hown', hat', List.nodup_cons.2 ⟨fun hm => hin ((hmem p hp).1 hm), hnd⟩, fun q hq => ?_, fun q hq => ?_, by rw [hsp, if_neg hin, hsz]; simp⟩
    · rcases List.mem_cons.1 hq with rfl | hq
      · exact hp
      · exact hks q hq
    · show q ∈ p :: ks ↔ (if q = p then some (t, l) else L q).isSome = true
      by_cases e : q = p
      · subst e
        simp
      · rw [if_neg e, ← hmem q hq]
        simp [e]

/-- 'v, ok := m[p]' -/
theorem MapAt.look {w : World} {b n : Nat} {L : KE → Option (Nat × Bool)} {ks : List KE} (h : MapAt w b n L ks) {p : KE} (hp : WF p) {t : Nat} {l : Bool} (hL : L p = some (t, l)) :
    (Instr.lookup 52 (.map (some b)) (keyV p) true).run Yba.prog w = .ok (.tuple #[eaV t (-1) l, .bool true]) w := by
  obtain ⟨D, hown, hat, _⟩ := h
  obtain ⟨v, ps, hrun, hv⟩ := hown.look_ok law Yba.underlying52 (z := eaV 0 0 false) (by kernel_rfl) (eaElem_mk 0 0 false) (keyOf_mk hp)
  rw [hat p hp, hL] at hv
  obtain rfl := eaElem_inv hv
  rw [has_of (hat p hp), hL] at hrun
  exact hrun
theorem MapAt.len {w : World} {b n : Nat} {L : KE → Option (Nat × Bool)} {ks : List KE} (h : MapAt w b n L ks) (ty : TypeId) :
    (Builtin.len_ #[52] ty #[.map (some b)]).run Yba.prog w = .ok (.int .i64 (ks.length : Nat)) w := by
  obtain ⟨D, hown, _, _, _, _, hsz⟩ := h
  rw [hown.len Yba.underlying52, hsz]
end Go.Proofs.Ybulkdlum.lawA
