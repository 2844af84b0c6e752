/-
  No cell of these rows narrows 'for every input' (looked for: loops, veiled, ifaces, maps, wideKeys, modest, calm, conditions, laid).
  DERIVED. THE GIVEN ROWS OF THIS SEAT. 1 by the template 'for every input the law returns true; each argument reads behind the call as it read before'; 0 by the template 'total and deterministic' (their statements: YbulkdlygTotals.lean).
  GIVEN WITH THE SEED: the statements are not yours to turn. If you find one false, say at which input.
  Laid BY PROGRAM, IN A SANDBOX (cutbox-rows.mjs): the forced cells as the released guide's own fill.sh prints them over the translation 1a4cefe12bd9eb1b… (all of the seat's roots in one cut). By AI agents, Wed Nov 11 2026. No macro, syntax, notation, axiom, sorry.
-/
import Derived.Test.YbulkdlygChecked
import GoSem.Claim
import GoSem.ClaimJoined
import GoSem.ClaimMapViews
import Derived.JoinedTies
import Derived.KernelRfl
namespace Go.Proofs.Ybulkdlyg
/- THE CELL 'sum', in the pinned program and in every row, IS THE sha256 OF THE DUMP (.gsa) THAT YbulkdlygProg.lean LOADS. Nothing in Lean hashes anything: it is a label: what it is worth is what the hold of that sum in a sandbox is worth. -/
noncomputable def Yba.pinned : Pinned := { name := "ybulkdlyg", sum := "1a4cefe12bd9eb1b1425bfef124840e2d9206f12f73e119f0052b765b2585bae", checked := Yba.checked }
namespace Rows
def none {H : Type} : Left H := { results := [], args := [] }

/-- 'money.LawS5648BWhole': WHATEVER THE INPUT: true; the input reads as it did. -/
def lawS5648BWholeSpec : ChangeSpec := { name := "lawS5648BWhole", fn := fun _ => fun
  | [d1, d2] => { results := [.lit (.bool true)], args := [d1, d2] }
  | _ => none }
def lawS5648BWholeRow : OpenClaim := { program := "ybulkdlyg", sum := "1a4cefe12bd9eb1b1425bfef124840e2d9206f12f73e119f0052b765b2585bae", func := "example.com/openday/openday/money.LawS5648BWhole", spec := "lawS5648BWhole", apart := false }
def LawS5648BWholeSaid : Prop := lawS5648BWholeRow.holds Yba.pinned (OpenSpec.ofChange lawS5648BWholeSpec)

/-- ITS FALSE NEIGHBOUR: 'it returns false'. Refute it at one input. -/
def lawS5648BWholeWrong : ChangeSpec := { name := "lawS5648BWhole", fn := fun _ => fun
  | [d1, d2] => { results := [.lit (.bool false)], args := [d1, d2] }
  | _ => none }
def LawS5648BWholeWrongFalsely : Prop := lawS5648BWholeRow.holds Yba.pinned (OpenSpec.ofChange lawS5648BWholeWrong)

end Rows
end Go.Proofs.Ybulkdlyg
