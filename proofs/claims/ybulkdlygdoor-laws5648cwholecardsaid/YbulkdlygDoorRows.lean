/-
  NARROWER THAN 'FOR EVERY INPUT', by the rows' own cells (each row's printed sentence says how): LawS5648CWhole: laid.
  DERIVED. THE GIVEN ROWS OF THIS SEAT. 1 by the template 'for every input the law returns true; each argument reads behind the call as it read before'; 0 by the template 'total and deterministic' (their statements: YbulkdlygDoorTotals.lean).
  GIVEN WITH THE SEED: the statements are not yours to turn. If you find one false, say at which input.
  Laid BY PROGRAM, IN A SANDBOX (cutbox-rows.mjs): the forced cells as the released guide's own fill.sh prints them over the translation 58be6b443d0152fb… (all of the seat's roots in one cut). By AI agents, Wed Nov 11 2026. No macro, syntax, notation, axiom, sorry.
-/
import Derived.Test.YbulkdlygDoorChecked
import GoSem.Claim
import GoSem.ClaimJoined
import GoSem.ClaimMapViews
import Derived.JoinedTies
import Derived.KernelRfl
namespace Go.Proofs.YbulkdlygDoor
/- THE CELL 'sum', in the pinned program and in every row, IS THE sha256 OF THE DUMP (.gsa) THAT YbulkdlygDoorProg.lean LOADS. Nothing in Lean hashes anything: it is a label: what it is worth is what the hold of that sum in a sandbox is worth. -/
noncomputable def Ybad.pinned : Pinned := { name := "ybulkdlygdoor", sum := "58be6b443d0152fbc8efb11a6678f883561bdb4c880970efda93ba0d0592a02e", checked := Ybad.checked }
namespace Rows
def none {H : Type} : Left H := { results := [], args := [] }

/- WHAT THE LISTED PACKAGE-LEVEL VARIABLES READ AS WHEN THE CALL BEGINS. Each datum BY PROGRAM (the guide's laid-datum.mjs) off the statement by which the dump's own 'gosem.cut.vars' lays the variable. In a bare row this is a premise. The card (YbulkdlygDoorCards.lean) ties it to the program's text. -/
def laid_example_com_openday_openday_money_smallPowers {H : Type} : DataW H := .agg [.lit (.int .i64 1), .lit (.int .i64 10), .lit (.int .i64 100), .lit (.int .i64 1000), .lit (.int .i64 10000), .lit (.int .i64 100000), .lit (.int .i64 1000000), .lit (.int .i64 10000000), .lit (.int .i64 100000000), .lit (.int .i64 1000000000), .lit (.int .i64 10000000000), .lit (.int .i64 100000000000), .lit (.int .i64 1000000000000), .lit (.int .i64 10000000000000), .lit (.int .i64 100000000000000), .lit (.int .i64 1000000000000000), .lit (.int .i64 10000000000000000), .lit (.int .i64 100000000000000000), .lit (.int .i64 1000000000000000000)]

/-- 'money.LawS5648CWhole': WHATEVER THE INPUT: true; the input reads as it did. -/
def lawS5648CWholeSpec : ChangeSpec := { name := "lawS5648CWhole", vars := ["example.com/openday/openday/money.smallPowers"], fn := fun _ => fun
  | [d1, d2, d3, d4, d5, d6, g1] => { results := [.lit (.bool true)], args := [d1, d2, d3, d4, d5, d6], vars := [g1] }
  | _ => none }
def lawS5648CWholeRow : OpenClaim := { program := "ybulkdlygdoor", sum := "58be6b443d0152fbc8efb11a6678f883561bdb4c880970efda93ba0d0592a02e", func := "example.com/openday/openday/money.LawS5648CWhole", spec := "lawS5648CWhole", named := ["example.com/openday/openday/money.smallPowers"], apart := false, laid := [("example.com/openday/openday/money.smallPowers", laid_example_com_openday_openday_money_smallPowers)] }
def LawS5648CWholeSaid : Prop := lawS5648CWholeRow.holds Ybad.pinned (OpenSpec.ofChange lawS5648CWholeSpec)

/-- ITS FALSE NEIGHBOUR: 'it returns false'. Refute it at one input. -/
def lawS5648CWholeWrong : ChangeSpec := { name := "lawS5648CWhole", vars := ["example.com/openday/openday/money.smallPowers"], fn := fun _ => fun
  | [d1, d2, d3, d4, d5, d6, g1] => { results := [.lit (.bool false)], args := [d1, d2, d3, d4, d5, d6], vars := [g1] }
  | _ => none }
def LawS5648CWholeWrongFalsely : Prop := lawS5648CWholeRow.holds Ybad.pinned (OpenSpec.ofChange lawS5648CWholeWrong)

end Rows
end Go.Proofs.YbulkdlygDoor
