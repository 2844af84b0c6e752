/-
  No cell of these rows narrows 'for every input' (looked for: loops, veiled, ifaces, maps, wideKeys, modest, calm, conditions, laid).
  DERIVED. THE GIVEN ROWS OF THIS SEAT. 1 by the template 'for every input the law returns true; each argument reads behind the call as it read before'; 0 by the template 'total and deterministic' (their statements: YbulkdlwqTotals.lean).
  GIVEN WITH THE SEED: the statements are not yours to turn. If you find one false, say at which input.
  Laid BY PROGRAM, IN A SANDBOX (cutbox-rows.mjs): the forced cells as the released guide's own fill.sh prints them over the translation 43e9baf32479ad95… (all of the seat's roots in one cut). By AI agents, Wed Nov 11 2026. No macro, syntax, notation, axiom, sorry.
-/
import Derived.Test.YbulkdlwqChecked
import GoSem.Claim
import GoSem.ClaimJoined
import GoSem.ClaimMapViews
import Derived.JoinedTies
import Derived.KernelRfl
namespace Go.Proofs.Ybulkdlwq
/- THE CELL 'sum', in the pinned program and in every row, IS THE sha256 OF THE DUMP (.gsa) THAT YbulkdlwqProg.lean LOADS. Nothing in Lean hashes anything: it is a label: what it is worth is what the hold of that sum in a sandbox is worth. -/
noncomputable def Yba.pinned : Pinned := { name := "ybulkdlwq", sum := "43e9baf32479ad95b3c281285433b1b8ee5b92d84d27484c707ba434f261c55a", checked := Yba.checked }
namespace Rows
def none {H : Type} : Left H := { results := [], args := [] }

/-- 'flate.LawS5645AWhole': WHATEVER THE INPUT: true; the input reads as it did. -/
def lawS5645AWholeSpec : ChangeSpec := { name := "lawS5645AWhole", fn := fun _ => fun
  | [d1, d2, d3, d4, d5] => { results := [.lit (.bool true)], args := [d1, d2, d3, d4, d5] }
  | _ => none }
def lawS5645AWholeRow : OpenClaim := { program := "ybulkdlwq", sum := "43e9baf32479ad95b3c281285433b1b8ee5b92d84d27484c707ba434f261c55a", func := "example.com/tightcask/tightcask/flate.LawS5645AWhole", spec := "lawS5645AWhole", apart := false }
def LawS5645AWholeSaid : Prop := lawS5645AWholeRow.holds Yba.pinned (OpenSpec.ofChange lawS5645AWholeSpec)

/-- ITS FALSE NEIGHBOUR: 'it returns false'. Refute it at one input. -/
def lawS5645AWholeWrong : ChangeSpec := { name := "lawS5645AWhole", fn := fun _ => fun
  | [d1, d2, d3, d4, d5] => { results := [.lit (.bool false)], args := [d1, d2, d3, d4, d5] }
  | _ => none }
def LawS5645AWholeWrongFalsely : Prop := lawS5645AWholeRow.holds Yba.pinned (OpenSpec.ofChange lawS5645AWholeWrong)

end Rows
end Go.Proofs.Ybulkdlwq
