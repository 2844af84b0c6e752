/-
  No cell of these rows narrows 'for every input' (looked for: loops, veiled, ifaces, maps, wideKeys, modest, calm, conditions, laid).
  DERIVED. THE GIVEN ROWS OF THIS SEAT. 2 by the template 'for every input the law returns true; each argument reads behind the call as it read before'; 0 by the template 'total and deterministic' (their statements: YbulkdlumTotals.lean).
  GIVEN WITH THE SEED: the statements are not yours to turn. If you find one false, say at which input.
  Laid BY PROGRAM, IN A SANDBOX (cutbox-rows.mjs): the forced cells as the released guide's own fill.sh prints them over the translation b36e55706af4c05f… (all of the seat's roots in one cut). By AI agents, Wed Nov 11 2026. No macro, syntax, notation, axiom, sorry.
-/
import Derived.Test.YbulkdlumChecked
import GoSem.Claim
import GoSem.ClaimJoined
import GoSem.ClaimMapViews
import Derived.JoinedTies
import Derived.KernelRfl
namespace Go.Proofs.Ybulkdlum
/- THE CELL 'sum', in the pinned program and in every row, IS THE sha256 OF THE DUMP (.gsa) THAT YbulkdlumProg.lean LOADS. Nothing in Lean hashes anything: it is a label: what it is worth is what the hold of that sum in a sandbox is worth. -/
noncomputable def Yba.pinned : Pinned := { name := "ybulkdlum", sum := "b36e55706af4c05ff0eab1105e8d1cc0f10236a6ae7104584eed2e72299c7e62", checked := Yba.checked }
namespace Rows
def none {H : Type} : Left H := { results := [], args := [] }

/-- 'serialis.LawS5641AWhole': WHATEVER THE INPUT: true; the input reads as it did. -/
def lawS5641AWholeSpec : ChangeSpec := { name := "lawS5641AWhole", fn := fun _ => fun
  | [d1, d2, d3] => { results := [.lit (.bool true)], args := [d1, d2, d3] }
  | _ => none }
def lawS5641AWholeRow : OpenClaim := { program := "ybulkdlum", sum := "b36e55706af4c05ff0eab1105e8d1cc0f10236a6ae7104584eed2e72299c7e62", func := "example.com/serialis/serialis.LawS5641AWhole", spec := "lawS5641AWhole", plainKeys := false, apart := false }
def LawS5641AWholeSaid : Prop := lawS5641AWholeRow.holds Yba.pinned (OpenSpec.ofChange lawS5641AWholeSpec)

/-- ITS FALSE NEIGHBOUR: 'it returns false'. Refute it at one input. -/
def lawS5641AWholeWrong : ChangeSpec := { name := "lawS5641AWhole", fn := fun _ => fun
  | [d1, d2, d3] => { results := [.lit (.bool false)], args := [d1, d2, d3] }
  | _ => none }
def LawS5641AWholeWrongFalsely : Prop := lawS5641AWholeRow.holds Yba.pinned (OpenSpec.ofChange lawS5641AWholeWrong)

/-- 'serialis.LawS5641CWhole': WHATEVER THE INPUT: true; the input reads as it did. -/
def lawS5641CWholeSpec : ChangeSpec := { name := "lawS5641CWhole", fn := fun _ => fun
  | [d1, d2, d3, d4] => { results := [.lit (.bool true)], args := [d1, d2, d3, d4] }
  | _ => none }
def lawS5641CWholeRow : OpenClaim := { program := "ybulkdlum", sum := "b36e55706af4c05ff0eab1105e8d1cc0f10236a6ae7104584eed2e72299c7e62", func := "example.com/serialis/serialis.LawS5641CWhole", spec := "lawS5641CWhole", plainKeys := false, apart := false }
def LawS5641CWholeSaid : Prop := lawS5641CWholeRow.holds Yba.pinned (OpenSpec.ofChange lawS5641CWholeSpec)

/-- ITS FALSE NEIGHBOUR: 'it returns false'. Refute it at one input. -/
def lawS5641CWholeWrong : ChangeSpec := { name := "lawS5641CWhole", fn := fun _ => fun
  | [d1, d2, d3, d4] => { results := [.lit (.bool false)], args := [d1, d2, d3, d4] }
  | _ => none }
def LawS5641CWholeWrongFalsely : Prop := lawS5641CWholeRow.holds Yba.pinned (OpenSpec.ofChange lawS5641CWholeWrong)

end Rows
end Go.Proofs.Ybulkdlum
