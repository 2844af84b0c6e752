/- LawS5641AWhole: the row. -/
import Derived.Test.YbulkdlumRows
import Derived.WalkKit
import Derived.ProofKit
import Derived.OpenShut
import Derived.ShutString
import Derived.ChangeOld
import Derived.Below
import Derived.SizedLaws
import Derived.Test.YbulkdlumAOpen
import Derived.Test.YbulkdlumALaw
namespace Go.Proofs.Ybulkdlum.lawS5641AWhole
open Go.ChangeShapes Go.WideShapes Go.ChangeAt Go.RowKit Go.Proofs.Ybulkdlum.lawA
open Go.ChangeMaps (open_string shut_string)
set_option linter.unusedVariables false

theorem own : ownKnob Yba.prog.godebug = none := by kernel_rfl
theorem laidOut : laidOutB Yba.prog = true := by kernel_rfl
theorem cells29 : Yba.prog.cellsOf 29 = 3 := by kernel_rfl
theorem cells34 : Yba.prog.cellsOf 34 = 2 := by kernel_rfl
theorem cells5 : Yba.prog.cellsOf 5 = 1 := by kernel_rfl
theorem cells4 : Yba.prog.cellsOf 4 = 1 := by kernel_rfl
theorem cells2 : Yba.prog.cellsOf 2 = 1 := by kernel_rfl

section
variable {H : Type} {enc : TypeId × Value → H} {w : World} {base : Nat} {spare : Nat → Bool} {held : Bool}
theorem elemO (n : Nat) (cs : List Value) (y : DataW H × List MemPlace) (h : DataW.trod enc Yba.prog w base spare held n 29 cs = some y) :
    ∃ x : Mop, cs = encO x ∧ (0 ≤ x.k ∧ x.k ≤ 255 ∧ (Lit.int .i64 x.e).wf = true) := by
  obtain ⟨xs, k, _, _, hlen, hxl, hf⟩ := DataW.trod_struct Yba.underlying29 h
  rw [cells29] at hlen
  match cs, hlen, xs, hxl with
  | [v0, v1, v2], _, [y0, y1, y2], _ =>
    have g0 := hf 0 _ rfl
    have g1 := hf 1 _ rfl
    have g2 := hf 2 _ rfl
    simp [cells5, cells4, cells2] at g0 g1 g2
    obtain ⟨a, ha, _, wa⟩ := DataW.trod_int Yba.underlying5 g0
    obtain ⟨b, hb, _⟩ := DataW.trod_bool Yba.underlying4 g1
    obtain ⟨c, hc, _, wc⟩ := DataW.trod_int Yba.underlying2 g2
    simp only [List.cons.injEq, and_true] at ha hb hc
    subst ha hb hc
    obtain ⟨m0, m1⟩ := bounds_u8 wa
    exact ⟨⟨a, b, c⟩, rfl, m0, by omega, wc⟩
theorem elemU (n : Nat) (cs : List Value) (y : DataW H × List MemPlace) (h : DataW.trod enc Yba.prog w base spare held n 34 cs = some y) :
    ∃ u : Nat × Nat, cs = encU u ∧ (u.1 ≤ 255 ∧ u.2 ≤ 255) := by
  obtain ⟨xs, k, _, _, hlen, hxl, hf⟩ := DataW.trod_struct Yba.underlying34 h
  rw [cells34] at hlen
  match cs, hlen, xs, hxl with
  | [v0, v1], _, [y0, y1], _ =>
    have g0 := hf 0 _ rfl
    have g1 := hf 1 _ rfl
    simp [cells5] at g0 g1
    obtain ⟨a, ha, _, wa⟩ := DataW.trod_int Yba.underlying5 g0
    obtain ⟨b, hb, _, wb⟩ := DataW.trod_int Yba.underlying5 g1
    simp only [List.cons.injEq, and_true] at ha hb
    subst ha hb
    obtain ⟨m0, m1⟩ := bounds_u8 wa
    obtain ⟨k0, k1⟩ := bounds_u8 wb
    refine ⟨(a.toNat, b.toNat), ?_, by simp only; omega, by simp only; omega⟩
    simp only [encU, Int.toNat_of_nonneg m0, Int.toNat_of_nonneg k0]
end

set_option maxRecDepth 100000 in
theorem walk (a : Int) (ao : Option Addr) (n co : Nat) (zs : List Mop) (au : Option Addr) (m cu : Nat) (us : List (Nat × Nat)) (w : World) (wa : (Lit.int .u8 a).wf = true) (hz : zs.length = n) (hu : us.length = m)
    (hzw : ∀ x ∈ zs, 0 ≤ x.k ∧ x.k ≤ 255 ∧ (Lit.int .i64 x.e).wf = true) (huw : ∀ u ∈ us, u.1 ≤ 255 ∧ u.2 ≤ 255)
    (hO : 0 < n → ∃ b off, ao = some ⟨b, off, none⟩ ∧ Tab w b off 3 encO zs) (hU : 0 < m → ∃ b off, au = some ⟨b, off, none⟩ ∧ Tab w b off 2 encU us) :
    Calls Yba.prog 3 #[.int .u8 a, .slice ao n co, .slice au m cu] w fun e w' => e = .returned (.bool true) ∧ Below w.heap.size w w' := by
  by_cases hn : n ≤ 256
  · by_cases hm : m ≤ 256
    · obtain ⟨a0, a1⟩ := bounds_u8 wa
      exact law_try a ao n co zs au m cu us w a0 (by omega) hn hm hz hu hzw huw hO hU
    · clear hz hu hzw huw hO hU
      have d1 : decide ((256 : Int) < (n : Int)) = false := decide_eq_false (by omega)
      have d2 : decide ((256 : Int) < (m : Int)) = true := decide_eq_true (by omega)
      go_enter Yba.func3, Yba.ntmps3
      go_wp2
      go_ret
      exact ⟨rfl, Below.refl _ _⟩
  · clear hz hu hzw huw hO hU
    have d1 : decide ((256 : Int) < (n : Int)) = true := decide_eq_true (by omega)
    go_enter Yba.func3, Yba.ntmps3
    go_wp2
    go_ret
    exact ⟨rfl, Below.refl _ _⟩

set_option maxRecDepth 100000 in
theorem lifted (os : Os) (started : os.Started) (H : Type) (enc : TypeId × Value → H) :
    ReturnsInHanded {} Yba.checked os 3 .any (Rows.lawS5641AWholeSpec.pre6 enc Yba.prog Yba.f3 Rows.lawS5641AWholeRow.domain false) (Rows.lawS5641AWholeSpec.post enc Yba.prog Yba.f3 false true false false) := by
  refine returnsInHanded_of_change_sized (C := Yba.checked) own started (by kernel_rfl) Yba.func3
    (ChangeSpec.witness6 (enc := enc) (C := Yba.checked) false ⟨#[], #[.int .u8 0, .slice none 0 0, .slice none 0 0], []⟩ 8 (by kernel_rfl) (by kernel_rfl) (by kernel_rfl) (by kernel_rfl)) ?_
  intro W base args ds gs before hval0 hW hcnd hsz0 _
  clear hsz0
  have hval : ∀ (j : Nat) t v, Yba.f3.params[j]? = some t → args[j]? = some v → Value.okWide Yba.prog W .any base t v := hval0
  have hW' := hW
  obtain ⟨p, q, hA0, hV, rfl, hfz, hnd⟩ := hW
  have hA : DataW.TrodAll enc Yba.prog W 0 (fun _ => true) true Yba.f3.params.toList args.toList ds p := hA0
  rw [Yba.params3] at hA hval
  obtain ⟨v0, vs0, d0, ds0, p0, q0, hargs, rfl, rfl, h0, t0⟩ := trodAll_cons hA
  obtain ⟨v1, vs1, d1, ds1, p1, q1, rfl, rfl, rfl, h1, t1⟩ := trodAll_cons t0
  obtain ⟨v2, vs2, d2, ds2, p2, q2, rfl, rfl, rfl, h2, r2⟩ := trodAll_cons t1
  obtain ⟨rfl, rfl, rfl⟩ := trodAll_nil r2
  obtain rfl : args = #[v0, v1, v2] := by cases args; simp_all
  obtain ⟨rfl, rfl⟩ := trodVars_none hV
  obtain ⟨a0, rfl, rfl, rfl, w0⟩ := open_int Yba.underlying5 (hval 0 5 v0 rfl rfl) h0
  obtain ⟨a1, len1, cap1, rfl⟩ := okWide_slice Yba.underlying22 (hval 1 22 v1 rfl rfl)
  have k1 := h1
  have lt1 : ∀ x ∈ p1, x.block < W.heap.size := by obtain ⟨m, hm⟩ := k1; exact DataW.trod_lt m _ _ _ hm
  obtain ⟨zs, hz, hzw, hO⟩ : ∃ zs : List Mop, zs.length = len1 ∧ (∀ x ∈ zs, 0 ≤ x.k ∧ x.k ≤ 255 ∧ (Lit.int .i64 x.e).wf = true) ∧ (0 < len1 → ∃ b off, a1 = some ⟨b, off, none⟩ ∧ Tab W b off 3 encO zs) := by
    obtain ⟨fuel, hf⟩ := h1
    haveI : Inhabited Mop := ⟨⟨0, false, 0⟩⟩
    exact open_tab Yba.underlying22 cells29 (by omega) encO (fun _ => rfl) _ elemO hf
  obtain ⟨a2, len2, cap2, rfl⟩ := okWide_slice Yba.underlying23 (hval 2 23 v2 rfl rfl)
  have k2 := h2
  have lt2 : ∀ x ∈ p2, x.block < W.heap.size := by obtain ⟨m, hm⟩ := k2; exact DataW.trod_lt m _ _ _ hm
  obtain ⟨us, hu, huw, hU⟩ : ∃ us : List (Nat × Nat), us.length = len2 ∧ (∀ u ∈ us, u.1 ≤ 255 ∧ u.2 ≤ 255) ∧ (0 < len2 → ∃ b off, a2 = some ⟨b, off, none⟩ ∧ Tab W b off 2 encU us) := by
    obtain ⟨fuel, hf⟩ := h2
    exact open_tab Yba.underlying23 cells34 (by omega) encU (fun _ => rfl) _ elemU hf
  clear hA0 hval0
  refine (walk a0 a1 len1 cap1 zs a2 len2 cap2 us W w0 hz hu hzw huw hO hU).mono fun e W' ⟨he, bel⟩ => ?_
  subst he
  exact ⟨_, rfl, _, _, _, [], _, [], hW', trodAll_mk1 (shut_bool Yba.underlying4 _), (trodAll_cons_mk (shut_int Yba.underlying5 w0) (trodAll_cons_mk (Below.trod laidOut (by kernel_rfl) (of_decide_eq_true (by kernel_rfl)) k1 bel lt1) (trodAll_cons_mk (Below.trod laidOut (by kernel_rfl) (of_decide_eq_true (by kernel_rfl)) k2 bel lt2) trodAll_mk0))), rfl, bel.frame _, fun h => by cases h⟩

theorem over : Rows.lawS5641AWholeRow.holds Yba.pinned (OpenSpec.ofChange Rows.lawS5641AWholeSpec) :=
  OpenClaim.holds_of_wide 3 Yba.f3 rfl rfl rfl rfl rfl rfl rfl ⟨rfl, rfl, rfl, rfl, rfl⟩ rfl rfl rfl rfl rfl (by kernel_rfl) Yba.func3 (by kernel_rfl)
    (of_decide_eq_true (by kernel_rfl)) (by unfold Func.isWrapper; first | (rw [if_pos (by decide +kernel)]; kernel_rfl) | (rw [if_neg (by decide +kernel)]; exact ⟨rfl, rfl⟩))
    (fun os started H enc _ => lifted os started H enc)

/-- ████ THE STATEMENT ████ -/
theorem proved : Rows.LawS5641AWholeSaid := over
#print axioms proved
end Go.Proofs.Ybulkdlum.lawS5641AWhole
