/- LawS5641CWhole: the law's walk and the row. The frame is the shell's, turned to 'returnsInHanded_of_change_sized': the form's own reach pays that len(list)+len(of) does not wrap. -/
import Derived.Test.YbulkdlumRows
import Derived.WalkKit
import Derived.ProofKit
import Derived.OpenShut
import Derived.ShutString
import Derived.ChangeOld
import Derived.Below
import Derived.SizedLaws
import Derived.Test.YbulkdlumCWalk0
import Derived.Test.YbulkdlumCWalk1
import Derived.Test.YbulkdlumCWalk2
namespace Go.Proofs.Ybulkdlum.lawS5641CWhole
open Go.ChangeShapes Go.WideShapes Go.ChangeAt Go.RowKit
open Go.ChangeMaps (open_string shut_string)
set_option linter.unusedVariables false

theorem own : ownKnob Yba.prog.godebug = none := by kernel_rfl
theorem laidOut : laidOutB Yba.prog = true := by kernel_rfl

/-- WHAT THE WALK IS TOLD OF A SLICE OF INTEGERS THAT CAME IN: it is nil; or it leads to a row of 'cap' cells, the numbers 'zs' (the first 'len' are its elements, the rest its spare room), each fitting its kind. -/
def IsRow (k : IntKind) (w : World) (a : Option Addr) (len cap : Nat) (zs : List Int) : Prop :=
  (a = none ∧ len = 0 ∧ cap = 0 ∧ zs = []) ∨
  ∃ x, a = some x ∧ len ≤ cap ∧ cap ≤ maxLen ∧ zs.length = cap ∧ (∀ i, i < zs.length → w.cell? (x.add i) = some (.int k (zs.getD i 0))) ∧ ∀ n ∈ zs, (Lit.int k n).wf = true

theorem bytes2 : Yba.prog.bytesOf 2 = 8 := by kernel_rfl

theorem IsRow.row {w : World} {a : Option Addr} {len cap : Nat} {zs : List Int} (h : IsRow .i64 w a len cap zs) : lawC.Row w a len (zs.take len) := by
  rcases h with ⟨_, rfl, _, rfl⟩ | ⟨x, rfl, hl, _, hz, hc, _⟩
  · exact ⟨rfl, fun h => by omega⟩
  · refine ⟨by simp [hz, hl], fun h => ?_⟩
    obtain ⟨b, off, rfl, hb⟩ := ints_at hc (by omega)
    exact ⟨b, off, rfl, fun i hi => by rw [hb i (by omega)]; simp [hi, List.getD]⟩
theorem IsRow.nil {w : World} {a : Option Addr} {len cap : Nat} {zs : List Int} (h : IsRow .i64 w a len cap zs) : a = none → len = 0 ∧ cap = 0 := by
  rcases h with ⟨_, rfl, rfl, rfl⟩ | ⟨x, rfl, _⟩
  · exact fun _ => ⟨rfl, rfl⟩
  · exact fun h => by cases h
theorem IsRow.le {w : World} {a : Option Addr} {len cap : Nat} {zs : List Int} (h : IsRow .i64 w a len cap zs) : len ≤ cap ∧ cap ≤ maxLen := by
  rcases h with ⟨_, rfl, rfl, rfl⟩ | ⟨x, rfl, hl, hm, _⟩
  · exact ⟨Nat.le_refl _, Nat.zero_le _⟩
  · exact ⟨hl, hm⟩

/-! ### STEP 1: THE WALK -/
theorem walk (a0 : Option Addr) (len0 cap0 : Nat) (z0 : List Int) (a1 : Option Addr) (len1 cap1 : Nat) (z1 : List Int) (a2 : Int) (a3 : Int) (w : World) (w0 : IsRow .i64 w a0 len0 cap0 z0) (w1 : IsRow .i64 w a1 len1 cap1 z1) (w2 : (Lit.int .u8 a2).wf = true) (w3 : (Lit.int .u8 a3).wf = true) (r0 : len0 * 8 ≤ 140737488351232) (r1 : len1 * 8 ≤ 140737488351232) :
    Calls Yba.prog 4 #[.slice a0 len0 cap0, .slice a1 len1 cap1, .int .u8 a2, .int .u8 a3] w fun e w' => e = .returned (.bool true) ∧ Below w.heap.size w w' := by
  obtain ⟨m0, m1⟩ := bounds_u8 w2
  obtain ⟨k0, k1⟩ := bounds_u8 w3
  by_cases hb : len0 + len1 ≤ 1048576
  · have hm : a2 % 3 = 0 ∨ a2 % 3 = 1 ∨ a2 % 3 = 2 := by omega
    rcases hm with hm | hm | hm
    · exact lawC.walk0 a0 len0 cap0 _ a1 len1 cap1 _ a2 a3 w w0.row w0.nil w1.row w1.nil hb m0 m1 hm
    · by_cases hp : 0 < len1
      · exact lawC.walk1 a0 len0 cap0 a1 len1 cap1 _ a2 a3 w w1.row w1.nil w1.le.1 w1.le.2 hp hb m0 m1 k0 k1 hm
      · obtain rfl : len1 = 0 := by omega
        exact lawC.walk1e a0 len0 cap0 a1 cap1 a2 a3 w (fun h => (w1.nil h).2) (by omega) m0 m1 hm
    · cases a0 with
      | none =>
        obtain ⟨rfl, rfl⟩ := w0.nil rfl
        exact lawC.walk2n a1 len1 cap1 _ a2 a3 w w1.row w1.nil (by omega) m0 m1 hm
      | some x => exact lawC.walk2 x len0 cap0 _ a1 len1 cap1 _ a2 a3 w w0.row w1.row w1.nil hb m0 m1 hm
  · clear w0 w1 w2 w3
    go_enter Yba.func4, Yba.ntmps4
    go_wp2
    go_ret
    exact ⟨rfl, Below.refl _ _⟩

/-! ### THE ROW's STEP: WRITTEN OUT: LEAVE IT -/
set_option maxRecDepth 100000 in
theorem lifted (os : Os) (started : os.Started) (H : Type) (enc : TypeId × Value → H) :
    ReturnsInHanded {} Yba.checked os 4 .any (Rows.lawS5641CWholeSpec.pre6 enc Yba.prog Yba.f4 Rows.lawS5641CWholeRow.domain false) (Rows.lawS5641CWholeSpec.post enc Yba.prog Yba.f4 false true false false) := by
  refine returnsInHanded_of_change_sized (C := Yba.checked) own started (by kernel_rfl) Yba.func4
    (ChangeSpec.witness6 (enc := enc) (C := Yba.checked) false ⟨#[], #[.slice none 0 0, .slice none 0 0, .int .u8 0, .int .u8 0], []⟩ 8 (by kernel_rfl) (by kernel_rfl) (by kernel_rfl) (by kernel_rfl)) ?_
  intro W base args ds gs before hval0 hW hcnd hsz0 _
  have hsz : (DataW.weightsEach Yba.prog (Yba.f4.params.toList ++ Rows.lawS5641CWholeSpec.plain.varTypes Yba.prog) (ds ++ gs)).all (· ≤ reachBytes) = true := hsz0
  clear hsz0
  have hval : ∀ (j : Nat) t v, Yba.f4.params[j]? = some t → args[j]? = some v → Value.okWide Yba.prog W .any base t v := hval0
  have hW' := hW
  obtain ⟨p, q, hA0, hV, rfl, hfz, hnd⟩ := hW
  have hA : DataW.TrodAll enc Yba.prog W 0 (fun _ => true) true Yba.f4.params.toList args.toList ds p := hA0
  rw [Yba.params4] at hA hval hsz
  obtain ⟨v0, vs0, d0, ds0, p0, q0, hargs, rfl, rfl, h0, t0⟩ := trodAll_cons hA
  obtain ⟨v1, vs1, d1, ds1, p1, q1, rfl, rfl, rfl, h1, t1⟩ := trodAll_cons t0
  obtain ⟨v2, vs2, d2, ds2, p2, q2, rfl, rfl, rfl, h2, r2⟩ := trodAll_cons t1
  obtain ⟨v3, vs3, d3, ds3, p3, q3, rfl, rfl, rfl, h3, r3⟩ := trodAll_cons r2
  obtain ⟨rfl, rfl, rfl⟩ := trodAll_nil r3
  obtain rfl : args = #[v0, v1, v2, v3] := by cases args; simp_all
  obtain ⟨rfl, rfl⟩ := trodVars_none hV
  obtain ⟨a0, len0, cap0, rfl⟩ := okWide_slice Yba.underlying41 (hval 0 41 v0 rfl rfl)
  have k0 := h0
  have lt0 : ∀ x ∈ p0, x.block < W.heap.size := by obtain ⟨m, hm⟩ := k0; exact DataW.trod_lt m _ _ _ hm
  obtain ⟨z0, w0, r0⟩ : ∃ zs, IsRow .i64 W a0 len0 cap0 zs ∧ len0 * 8 ≤ 140737488351232 := by
    obtain ⟨fuel, hf⟩ := h0
    rcases open_ints Yba.underlying41 Yba.underlying2 (by kernel_rfl) hf with ⟨hcs, _⟩ | ⟨x, l, c, zs, hcs, _, hl, hm, hz, hx, hcell, hwz⟩
    · simp [Value.cells] at hcs
      obtain ⟨rfl, rfl, rfl⟩ := hcs
      exact ⟨[], .inl ⟨rfl, rfl, rfl, rfl⟩, by omega⟩
    · simp [Value.cells] at hcs
      obtain ⟨rfl, rfl, rfl⟩ := hcs
      simp only [Prod.mk.injEq] at hx
      obtain ⟨hd, _⟩ := hx
      simp only [if_true] at hz
      have hr := sized_slice hsz (j := 0) (t := 41) (e := 2) rfl (by rw [hd]; rfl) Yba.underlying41
      rw [bytes2] at hr
      simp only [lits, List.length_map, List.length_take, List.length_drop, reachBytes] at hr
      exact ⟨zs, .inr ⟨_, rfl, hl, hm, hz, hcell, hwz⟩, by omega⟩
  obtain ⟨a1, len1, cap1, rfl⟩ := okWide_slice Yba.underlying41 (hval 1 41 v1 rfl rfl)
  have k1 := h1
  have lt1 : ∀ x ∈ p1, x.block < W.heap.size := by obtain ⟨m, hm⟩ := k1; exact DataW.trod_lt m _ _ _ hm
  obtain ⟨z1, w1, r1⟩ : ∃ zs, IsRow .i64 W a1 len1 cap1 zs ∧ len1 * 8 ≤ 140737488351232 := by
    obtain ⟨fuel, hf⟩ := h1
    rcases open_ints Yba.underlying41 Yba.underlying2 (by kernel_rfl) hf with ⟨hcs, _⟩ | ⟨x, l, c, zs, hcs, _, hl, hm, hz, hx, hcell, hwz⟩
    · simp [Value.cells] at hcs
      obtain ⟨rfl, rfl, rfl⟩ := hcs
      exact ⟨[], .inl ⟨rfl, rfl, rfl, rfl⟩, by omega⟩
    · simp [Value.cells] at hcs
      obtain ⟨rfl, rfl, rfl⟩ := hcs
      simp only [Prod.mk.injEq] at hx
      obtain ⟨hd, _⟩ := hx
      simp only [if_true] at hz
      have hr := sized_slice hsz (j := 1) (t := 41) (e := 2) rfl (by rw [hd]; rfl) Yba.underlying41
      rw [bytes2] at hr
      simp only [lits, List.length_map, List.length_take, List.length_drop, reachBytes] at hr
      exact ⟨zs, .inr ⟨_, rfl, hl, hm, hz, hcell, hwz⟩, by omega⟩
  obtain ⟨a2, rfl, rfl, rfl, w2⟩ := open_int Yba.underlying5 (hval 2 5 v2 rfl rfl) h2
  obtain ⟨a3, rfl, rfl, rfl, w3⟩ := open_int Yba.underlying5 (hval 3 5 v3 rfl rfl) h3
  clear hA0 hval0
  refine (walk a0 len0 cap0 z0 a1 len1 cap1 z1 a2 a3 W w0 w1 w2 w3 r0 r1).mono fun e W' ⟨he, bel⟩ => ?_
  subst he
  exact ⟨_, rfl, _, _, _, [], _, [], hW', trodAll_mk1 (shut_bool Yba.underlying4 _), (trodAll_cons_mk (Below.trod laidOut (by kernel_rfl) (of_decide_eq_true (by kernel_rfl)) k0 bel lt0) (trodAll_cons_mk (Below.trod laidOut (by kernel_rfl) (of_decide_eq_true (by kernel_rfl)) k1 bel lt1) (trodAll_cons_mk (shut_int Yba.underlying5 w2) (trodAll_cons_mk (shut_int Yba.underlying5 w3) trodAll_mk0)))), rfl, bel.frame _, fun h => by cases h⟩

theorem over : Rows.lawS5641CWholeRow.holds Yba.pinned (OpenSpec.ofChange Rows.lawS5641CWholeSpec) :=
  OpenClaim.holds_of_wide 4 Yba.f4 rfl rfl rfl rfl rfl rfl rfl ⟨rfl, rfl, rfl, rfl, rfl⟩ rfl rfl rfl rfl rfl (by kernel_rfl) Yba.func4 (by kernel_rfl)
    (of_decide_eq_true (by kernel_rfl)) (by unfold Func.isWrapper; first | (rw [if_pos (by decide +kernel)]; kernel_rfl) | (rw [if_neg (by decide +kernel)]; exact ⟨rfl, rfl⟩))
    (fun os started H enc _ => lifted os started H enc)

/-- ████ THE STATEMENT ████ -/
theorem proved : Rows.LawS5641CWholeSaid := over
#print axioms proved
end Go.Proofs.Ybulkdlum.lawS5641CWhole
