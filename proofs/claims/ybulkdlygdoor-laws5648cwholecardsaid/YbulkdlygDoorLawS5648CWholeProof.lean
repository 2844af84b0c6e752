/- LawS5648CWhole: the row, and the tied card. -/
import Derived.Test.YbulkdlygDoorCards
import Derived.Test.YbulkdlygDoorTie
import Derived.Test.YbulkdlygDoorCLaw
import Derived.ProofKit
import Derived.OpenShut
import Derived.OpenVars
import Derived.LaidMore
import Derived.Lib.LaidTab
import Derived.Stop.LaidErr
import Derived.SevenTiedAt
namespace Go.Proofs.YbulkdlygDoor.lawS5648CWhole
open Go.ChangeShapes Go.WideShapes Go.ChangeAt Go.RowKit

theorem own : ownKnob Ybad.prog.godebug = none := by kernel_rfl
theorem laidOut : laidOutB Ybad.prog = true := by kernel_rfl

theorem door_met (os : Os) (args : Array Value) : laidMetH Ybad.prog Rows.lawS5648CWholeRow.laid ((World.doorLaid Ybad.prog 651 os).forCall (fun _ _ => 0) ⟨#[], args, []⟩).memory := by
  rw [MakeChecks.laidMetH_plain _ _ _ (by kernel_rfl)]
  exact laidMet_of_run' 8 (by kernel_rfl) (by kernel_rfl)

/-- the name of the listed table, as the row has it -/
def nm : String := Rows.lawS5648CWholeSpec.vars.headD ""
theorem gPow : Ybad.prog.globalNamed nm = some 0 := by kernel_rfl
def tens : List Int := [1, 10, 100, 1000, 10000, 100000, 1000000, 10000000, 100000000, 1000000000, 10000000000, 100000000000, 1000000000000, 10000000000000, 100000000000000, 1000000000000000, 10000000000000000, 100000000000000000, 1000000000000000000]
theorem tens_at (i : Nat) (h : i < 19) : tens.getD i 0 = lawC.pw i := by
  have : ∀ i, i < 19 → tens.getD i 0 = lawC.pw i := by decide +kernel
  exact this i h

theorem tab (W : World) (h : laidMetH Ybad.prog Rows.lawS5648CWholeRow.laid W) : ∀ i, i < 19 → W.cell? ⟨0, i, none⟩ = some (.int .i64 (lawC.pw i)) := by
  rw [MakeChecks.laidMetH_plain _ _ _ (by kernel_rfl)] at h
  have h' : laidMet Ybad.prog [(nm, Lib.tabData .i64 tens)] W := h
  have ht := Lib.tabIs_of_head (t := 40) (e := 2) (n := 19) gPow (by kernel_rfl) (by kernel_rfl) (by kernel_rfl) (by kernel_rfl) (by kernel_rfl) h'
  intro i hi
  have := ht.cell gPow i (by simpa [tens] using hi)
  rw [this, tens_at i hi]

theorem walk (c m : Int) (p : Bool) (d n : Int) (q : Bool) (w : World) (wc : (Lit.int .i64 c).wf = true) (wm : (Lit.int .u16 m).wf = true) (wd : (Lit.int .i64 d).wf = true) (wn : (Lit.int .u16 n).wf = true)
    (htab : ∀ i, i < 19 → w.cell? ⟨0, i, none⟩ = some (.int .i64 (lawC.pw i))) :
    Calls Ybad.prog 3 #[.int .i64 c, .int .u16 m, .bool p, .int .i64 d, .int .u16 n, .bool q] w fun e w' => e = .returned (.bool true) ∧ Below w.heap.size w w' := by
  obtain ⟨c0, c1⟩ := bounds_i64 wc
  obtain ⟨d0, d1⟩ := bounds_i64 wd
  obtain ⟨m0, m1⟩ := bounds_u16 wm
  obtain ⟨n0, n1⟩ := bounds_u16 wn
  cases p with
  | true =>
    cases q with
    | true => exact lawC.law_bb c d m n w c0 c1 d0 d1 m0 m1 n0 n1
    | false => exact lawC.law_db c d m n w c0 c1 m0 m1 n0 n1
  | false =>
    cases q with
    | true => exact lawC.law_eb c d m n w d0 d1 m0 m1 n0 n1
    | false =>
      rcases Int.lt_trichotomy m n with h | h | h
      · exact lawC.law_lt c d m n w c0 c1 d0 d1 m0 m1 n0 n1 h htab
      · subst h
        exact lawC.law_eq c d m w c0 c1 d0 d1 m0 m1 htab
      · exact lawC.law_gt c d m n w c0 c1 d0 d1 m0 m1 n0 n1 h htab

set_option maxRecDepth 100000 in
theorem lifted (os : Os) (started : os.Started) (H : Type) (enc : TypeId × Value → H) :
    ReturnsInHanded {} Ybad.checked os 3 .any (fun w args => (Rows.lawS5648CWholeSpec.pre enc Ybad.prog Ybad.f3 [] false w args ∧ laidMetH Ybad.prog Rows.lawS5648CWholeRow.laid w) ∧ sizedMet enc Ybad.prog Ybad.f3 (OpenSpec.ofChange Rows.lawS5648CWholeSpec) false w args)
      (Rows.lawS5648CWholeSpec.post enc Ybad.prog Ybad.f3 false true false false) := by
  refine returnsInHanded_of_change_and (C := Ybad.checked) (X := fun w _ => laidMetH Ybad.prog Rows.lawS5648CWholeRow.laid w) (fun _ _ _ hh h => h.of_heap hh) own started (by kernel_rfl) Ybad.func3
    (ChangeSpec.witness_shaped (enc := enc) (C := Ybad.checked) (os := os) (X := fun w _ => laidMetH Ybad.prog Rows.lawS5648CWholeRow.laid w) false (World.doorLaid Ybad.prog 651 os) #[.int .i64 0, .int .u16 0, .bool false, .int .i64 0, .int .u16 0, .bool false] 8 rfl (World.shaped_of_RefB (by kernel_rfl) (by kernel_rfl)) (by kernel_rfl) (by kernel_rfl) (by kernel_rfl) (door_met os _)) ?_
  intro W base args ds gs before hval0 hW _ _ hL _
  have hval : ∀ (j : Nat) t v, Ybad.f3.params[j]? = some t → args[j]? = some v → Value.okWide Ybad.prog W .any base t v := hval0
  have hW' := hW
  obtain ⟨p, q, hA0, hV0, rfl, hfz, hnd⟩ := hW
  have hA : DataW.TrodAll enc Ybad.prog W 0 (fun _ => true) true Ybad.f3.params.toList args.toList ds p := hA0
  have hV : DataW.TrodVars enc Ybad.prog W (fun _ => true) [nm] gs q := hV0
  rw [Ybad.params3] at hA hval
  obtain ⟨v0, vs0, d0, ds0, p0, q0, hargs, rfl, rfl, h0, t0⟩ := trodAll_cons hA
  obtain ⟨v1, vs1, d1, ds1, p1, q1, rfl, rfl, rfl, h1, t1⟩ := trodAll_cons t0
  obtain ⟨v2, vs2, d2, ds2, p2, q2, rfl, rfl, rfl, h2, t2⟩ := trodAll_cons t1
  obtain ⟨v3, vs3, d3, ds3, p3, q3, rfl, rfl, rfl, h3, t3⟩ := trodAll_cons t2
  obtain ⟨v4, vs4, d4, ds4, p4, q4, rfl, rfl, rfl, h4, t4⟩ := trodAll_cons t3
  obtain ⟨v5, vs5, d5, ds5, p5, q5, rfl, rfl, rfl, h5, t5⟩ := trodAll_cons t4
  obtain ⟨rfl, rfl, rfl⟩ := trodAll_nil t5
  obtain rfl : args = #[v0, v1, v2, v3, v4, v5] := by cases args; simp_all
  obtain ⟨a0, rfl, rfl, rfl, w0⟩ := open_int Ybad.underlying2 (hval 0 2 v0 rfl rfl) h0
  obtain ⟨a1, rfl, rfl, rfl, w1⟩ := open_int Ybad.underlying22 (hval 1 22 v1 rfl rfl) h1
  obtain ⟨a2, rfl, rfl, rfl⟩ := open_bool Ybad.underlying4 (hval 2 4 v2 rfl rfl) h2
  obtain ⟨a3, rfl, rfl, rfl, w3⟩ := open_int Ybad.underlying2 (hval 3 2 v3 rfl rfl) h3
  obtain ⟨a4, rfl, rfl, rfl, w4⟩ := open_int Ybad.underlying22 (hval 4 22 v4 rfl rfl) h4
  obtain ⟨a5, rfl, rfl, rfl⟩ := open_bool Ybad.underlying4 (hval 5 4 v5 rfl rfl) h5
  clear hA0 hval0
  obtain ⟨g1, rfl⟩ : ∃ g1, gs = [g1] := by
    match gs, hV with
    | [g], _ => exact ⟨g, rfl⟩
    | [], h => exact h.elim
    | _ :: _ :: _, ⟨_, _, _, _, _, _, _, _, _, _, h, _⟩ => exact h.elim
  refine (walk a0 a1 a2 a3 a4 a5 W w0 w1 w3 w4 (tab W hL)).mono fun e W' ⟨he, hb⟩ => ?_
  subst he
  exact ⟨_, rfl, _, _, _, [], [], q, hW', trodAll_mk1 (shut_bool Ybad.underlying4 _),
    trodAll_cons_mk (shut_int Ybad.underlying2 w0) (trodAll_cons_mk (shut_int Ybad.underlying22 w1) (trodAll_cons_mk (shut_bool Ybad.underlying4 _) (trodAll_cons_mk (shut_int Ybad.underlying2 w3) (trodAll_cons_mk (shut_int Ybad.underlying22 w4) (trodAll_cons_mk (shut_bool Ybad.underlying4 _) trodAll_mk0))))),
    Below.trodVars laidOut hb (by kernel_rfl) hV, hb.frame _, fun h => by cases h⟩

theorem over : Rows.LawS5648CWholeSaid :=
  OpenClaim.holds_of_wide 3 Ybad.f3 rfl rfl rfl rfl rfl rfl rfl ⟨rfl, rfl, rfl, rfl, rfl⟩ rfl rfl rfl rfl rfl (by kernel_rfl) Ybad.func3 (by kernel_rfl)
    (of_decide_eq_true (by kernel_rfl)) (by unfold Func.isWrapper; first | (rw [if_pos (by decide +kernel)]; kernel_rfl) | (rw [if_neg (by decide +kernel)]; exact ⟨rfl, rfl⟩))
    (fun os started H enc _ => lifted os started H enc)

/-- THE STATEMENT: the tied card. -/
theorem proved : Rows.LawS5648CWholeCardSaid :=
  Claim7.holds_tied_plain_at .later [] [.called] true (true, "8db33ede16b434c712b21ff027110cc7625618f37883123bc2ccd9798ca74375") false
    over (fun _ h => by cases h) (by kernel_rfl) (fun _ h => by cases h) lawS5648CWhole_row_tie rfl ⟨rfl, rfl⟩ (by kernel_rfl) rfl
    (fun f fn hf hfn => by
      obtain rfl : f = 3 := Option.some.inj ((show Ybad.prog.funcNamed Rows.lawS5648CWholeRow.func = some 3 by kernel_rfl).symm.trans hf) |>.symm
      obtain rfl : fn = Ybad.f3 := (Option.some.inj (Ybad.func3.symm.trans hfn)).symm
      exact ⟨by kernel_rfl, fun j t ht => by
        have hall : (Ybad.f3.params.toList.all fun t => !Ybad.prog.wantsStandIn t) = true := by kernel_rfl
        have hm := List.all_eq_true.1 hall t (Array.mem_toList_iff.2 (Array.mem_of_getElem? ht))
        have hq : Ybad.prog.wantsStandIn t = false := by simpa using hm
        exact hq⟩)
    (by kernel_rfl)
#print axioms proved
end Go.Proofs.YbulkdlygDoor.lawS5648CWhole
