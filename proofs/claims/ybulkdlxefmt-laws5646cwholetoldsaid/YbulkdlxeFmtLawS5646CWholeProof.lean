/- LawS5646CWhole: the card: told and tied. -/
import Derived.Test.YbulkdlxeFmtCards
import Derived.Test.YbulkdlxeFmtTie
import Derived.Test.YbulkdlxeFmtCWalks
import Derived.ProofKit
import Derived.OpenShut
import Derived.ShutString
import Derived.Stop.JoinedAt
import Derived.Stop.Texts
import Derived.Stop.JoinedTold
import Derived.Stop.LaidErr
import Derived.Lib.LaidTab
import Derived.LaidMore
import Derived.SizedLaws
import Derived.SevenTiedAt
import Derived.Deep.DeepWitnessRef
namespace Go.Proofs.YbulkdlxeFmt.lawS5646CWhole
open Go.ChangeShapes Go.WideShapes Go.ChangeAt Go.RowKit Go.Kit
open Go.Extern.Stop Go.Stop Go.Extern

theorem own : ownKnob Ybaf.prog.godebug = none := by kernel_rfl
theorem laidOut : laidOutB Ybaf.pinned.checked.prog = true := by kernel_rfl
theorem stops : Ybaf.pinned.checked.prog.stops = ["fmt.Sprintf"] := by kernel_rfl
theorem stopKnobs : Ybaf.pinned.checked.prog.stopKnobs = [] := by kernel_rfl
theorem quiet (os : Os) : Stop.quiet Ybaf.pinned.checked.prog os := by
  intro k hk
  rw [stopKnobs] at hk
  cases hk

def spec : OpenSpec := OpenSpec.ofChange Rows.lawS5646CWholeSpec

/-- the heap that the start-up of the listed variables leaves meets the condition -/
theorem door_met (os : Os) (args : Array Value) : laidMetH Ybaf.prog Rows.lawS5646CWholeRow.laid ((World.doorLaid Ybaf.prog 24 os).forCall (fun _ _ => 0) ⟨#[], args, []⟩).memory := by
  rw [MakeChecks.laidMetH_plain _ _ _ (by kernel_rfl)]
  exact laidMet_of_run' 8 (by kernel_rfl) (by kernel_rfl)

theorem gPow : Ybaf.prog.globalNamed Ybaf.powName = some 0 := by kernel_rfl

theorem tab (W : World) (h : laidMetH Ybaf.prog Rows.lawS5646CWholeRow.laid W) : Lib.TabIs Ybaf.prog W Ybaf.powName .u64 Lib.pow10Tab := by
  rw [MakeChecks.laidMetH_plain _ _ _ (by kernel_rfl)] at h
  have h' : laidMet Ybaf.prog [(Ybaf.powName, Lib.tabData .u64 Lib.pow10Tab)] W := h.tail.tail
  exact Lib.tabIs_of_head (t := 39) (e := 31) (n := 20) gPow (by kernel_rfl) (by kernel_rfl) (by kernel_rfl) (by kernel_rfl) (by kernel_rfl) h'

/-- the text that F.told gives, as bytes -/
theorem told_bytes (F : Interp) (n : Int) (nm : List UInt8) (hs : nm.length ≤ 9) (wn : (Lit.int .i64 n).wf = true) :
    FmtStop.textOf (F.told "fmt.Sprintf" (lawC.reading n nm) 0) = ⟨(lawC.line n nm).toArray⟩ := by
  have hl := lawC.line_length n nm wn
  have ht := told_string F (lawC.text n nm (by omega) wn) (by omega)
  have h2 := textOf_list F.told "fmt.Sprintf" (lawC.reading n nm)
  rw [ht] at h2
  generalize FmtStop.textOf (F.told "fmt.Sprintf" (lawC.reading n nm) 0) = x at h2
  obtain ⟨d⟩ := x
  simp only at h2
  rw [← h2]

set_option maxRecDepth 100000 in
theorem lifted (os : Os) (started : os.Started) (H : Type) (enc : TypeId × Value → H) :
    ReturnsInTold none {} Ybaf.checked os 4 .any Input.okWide (spec.preRow enc Ybaf.prog Ybaf.f4 [] false Rows.lawS5646CWholeRow.laid) (fun F => (spec.at F).post enc Ybaf.prog Ybaf.f4 false true false false) (aloneAtReturn Ybaf.prog) nothingAlways := by
  refine returnsInTold_of_row (C := Ybaf.checked) (s := spec) (by kernel_rfl) own started (by kernel_rfl) Ybaf.func4
    (OpenSpec.witness_stopped_atRef (enc := enc) (C := Ybaf.checked) false (World.doorLaid Ybaf.prog 24 os) #[.int .i64 0] rfl (by kernel_rfl) (by kernel_rfl) (by kernel_rfl)
      (OpenSpec.preRow_of_B rfl 8 (by kernel_rfl) (by kernel_rfl) (door_met os _))) ?_
  intro F W base args ds gs before _ hF hval0 hW _ _ hsz hL _
  have hval : ∀ (j : Nat) t v, Ybaf.f4.params[j]? = some t → args[j]? = some v → Value.okWide Ybaf.prog W .any base t v := hval0
  have hW' := hW
  obtain ⟨p, q, hA0, hV, rfl, hfz, hnd⟩ := hW
  have hA : DataW.TrodAll enc Ybaf.prog W 0 (fun _ => true) true Ybaf.f4.params.toList args.toList ds p := hA0
  rw [Ybaf.params4] at hA hval
  obtain ⟨v0, d0, rfl, rfl, h0⟩ := trodAll_one hA
  obtain ⟨rfl, rfl⟩ := trodVars_none hV
  obtain ⟨n, rfl, rfl, rfl, wn⟩ := open_int Ybaf.underlying3 (hval 0 3 v0 rfl rfl) h0
  clear hA0 hval0
  obtain ⟨n0, n1⟩ := bounds_i64 wn
  have ht := tab W hL
  have hl := FmtText.itoa_length_le wn
  have fin : Calls Ybaf.prog 4 #[.int .i64 n] W fun e w' => e = .returned (.bool true) ∧ Below W.heap.size W w' := by
    by_cases h1 : n = 1
    · subst h1
      exact lawC.law_one F.told W hF ht hl (told_bytes F 1 _ (by decide) wn)
    · exact lawC.law_more F.told n W n0 n1 (by simpa using h1) hF ht hl (told_bytes F n _ (by decide) wn)
  refine fin.mono fun e W' ⟨he, hb⟩ => ?_
  subst he
  refine ⟨_, rfl, _, _, _, [], [], [], hW', ?_, ?_, rfl, hb.frame _, fun h => by cases h⟩
  · exact trodAll_mk1 (shut_bool Ybaf.underlying4 _)
  · exact trodAll_mk1 (shut_int Ybaf.underlying3 wn)

theorem over : Claim7.holds Ybaf.pinned (.plain spec) (Claim7.toldTiedRowAt .later Rows.lawS5646CWholeRow (true, "c3c5c1cbf740643e1f16cf9bcb0085bd2ebfd1fb4f980896600ece9d82cab22a") false false [.data, .data, .data] true) :=
  Claim7.holds_of_told_tied_any_at .later 4 Ybaf.f4 "fmt.Sprintf" [] [] _ _ _ _ _ (by kernel_rfl) rfl rfl rfl laidOut (by kernel_rfl) rfl ⟨rfl, rfl, rfl, rfl, rfl, rfl, rfl⟩ rfl rfl (by kernel_rfl) (by kernel_rfl) Ybaf.func4 (by kernel_rfl)
    (of_decide_eq_true (by kernel_rfl)) (of_decide_eq_true (by kernel_rfl)) stops.symm rfl stopKnobs.symm (by kernel_rfl)
    (by kernel_rfl) (by kernel_rfl) (by kernel_rfl) (by kernel_rfl) (by kernel_rfl) (by kernel_rfl) (by kernel_rfl) (by kernel_rfl) (by kernel_rfl) rfl (by kernel_rfl) rfl rfl
    rfl rfl
    rfl (by kernel_rfl) (by kernel_rfl) (by kernel_rfl) (by decide) (by kernel_rfl) lawS5646CWhole_row_tie
    (OpenClaim.moreEntering_of (by kernel_rfl) (by kernel_rfl) (by kernel_rfl) (by kernel_rfl) (by kernel_rfl) (by kernel_rfl) (by kernel_rfl) (by kernel_rfl) (by kernel_rfl) (by kernel_rfl))
    ⟨_, WideRow.started_initial, quiet _⟩
    (fun os started _ H enc _ => lifted os started H enc)

/-- THE STATEMENT -/
theorem proved : Rows.LawS5646CWholeToldSaid := over
#print axioms proved
end Go.Proofs.YbulkdlxeFmt.lawS5646CWhole
