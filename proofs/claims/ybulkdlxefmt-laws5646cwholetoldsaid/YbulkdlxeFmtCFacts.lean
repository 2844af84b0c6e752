/- LawS5646CWhole: the closed facts for the walk over fmt.Sprintf at "Running on %d worker %s", after the guide's LabelFmt.lean, at this dump's numbers; what fmt is asked; the text. -/
import Derived.Test.YbulkdlxeFmtRows
import Derived.Stop.CallBack
import Derived.Stop.IfaceNil
import GoSem.ClaimData
import Derived.Stop.FmtTextKit
import Derived.Stop.FmtTextVerbs
import Derived.Stop.FmtTextWidths
import Derived.Lib.ItoaNum
namespace Go.Proofs.YbulkdlxeFmt.lawC
open Go.Extern.Stop Go.Stop Go.Extern

theorem call9 (args : Array Value) (w : World) : (callFunc 9 args).run Ybaf.prog w = ((FmtStop.sprintf #[9, 62] #[9] args).run Ybaf.prog w).andThen fun v w' => .ok (.value v) w' :=
  run_callFunc_extern Ybaf.func9 (by kernel_rfl) (by kernel_rfl) (by kernel_rfl) (by kernel_rfl) args w
theorem guard (name : String) (w : World) : (FmtStop.guard name).run Ybaf.prog w = .ok () w := by kernel_rfl
theorem fmt2 : FmtStop.printed? ⟨#[82, 117, 110, 110, 105, 110, 103, 32, 111, 110, 32, 37, 100, 32, 119, 111, 114, 107, 101, 114, 32, 37, 115, 10]⟩ 2 = some [(0, 100, false), (1, 115, false)] := by kernel_rfl
theorem fmt2r (w : World) : (FmtDoors.printed ⟨#[82, 117, 110, 110, 105, 110, 103, 32, 111, 110, 32, 37, 100, 32, 119, 111, 114, 107, 101, 114, 32, 37, 115, 10]⟩ 2).run Ybaf.prog w = .ok [(0, 100, false), (1, 115, false)] w := by kernel_rfl
def shape3 : List UInt8 := [5, 3, 0, 0, 0, 0, 0, 0, 0, 105, 110, 116]
theorem op3_100 (name : String) (x : Int) (w : World) : (FmtStop.operand name false 100 false (.iface 3 (.int .i64 x))).run Ybaf.prog w = .ok (shape3, Go.Extern.Stop.digits 8 (x % 2 ^ 64).toNat) w := by kernel_rfl
def shape9 : List UInt8 := [12, 6, 0, 0, 0, 0, 0, 0, 0, 115, 116, 114, 105, 110, 103]
theorem op9_115 (name : String) (x : ByteArray) (w : World) : (FmtStop.operand name false 115 false (.iface 9 (.string x))).run Ybaf.prog w = .ok (shape9, FmtStop.pack x.data.toList) w := by kernel_rfl

/-- "process" | "processes" -/
def noun (n : Int) : List UInt8 := if n = 1 then [112, 114, 111, 99, 101, 115, 115] else [112, 114, 111, 99, 101, 115, 115, 101, 115]

/-- What fmt is asked. -/
def reading (n : Int) (nm : List UInt8) : List (List UInt8) :=
  [[82, 117, 110, 110, 105, 110, 103, 32, 111, 110, 32, 37, 100, 32, 119, 111, 114, 107, 101, 114, 32, 37, 115, 10], shape3, digits 8 (n % 18446744073709551616).toNat, shape9, FmtStop.pack nm]

/-- "Running on " n " worker " noun and a new line -/
def line (n : Int) (nm : List UInt8) : List UInt8 := [82, 117, 110, 110, 105, 110, 103, 32, 111, 110, 32] ++ Lib.itoa n ++ [32, 119, 111, 114, 107, 101, 114, 32] ++ nm ++ [10]

theorem parsed : (FmtText.parse [82, 117, 110, 110, 105, 110, 103, 32, 111, 110, 32, 37, 100, 32, 119, 111, 114, 107, 101, 114, 32, 37, 115, 10]).map FmtText.glue =
    some [.lit [82, 117, 110, 110, 105, 110, 103, 32, 111, 110, 32], .verb {} 100, .lit [32, 119, 111, 114, 107, 101, 114, 32], .verb {} 115, .lit [10]] := by rfl

theorem text (n : Int) (nm : List UInt8) (hs : nm.length < 2 ^ 64) (hw : (Lit.int .i64 n).wf = true) : FmtText.text "fmt.Sprintf" (reading n nm) = some (line n nm) := by
  have hi := FmtText.operand_int_at (sh := shape3) (k := .i64) rfl rfl n hw
  have hn := FmtText.operand_str_at (sh := shape9) rfl rfl nm hs
  rw [reading, FmtText.text_sprintf_glued parsed (FmtText.operands_cons hi (FmtText.operands_cons hn FmtText.operands_nil))]
  simp [FmtText.render, FmtText.printArg_d _ _ hw, FmtText.printArg_s_str, line]

theorem line_length (n : Int) (nm : List UInt8) (hw : (Lit.int .i64 n).wf = true) : (line n nm).length ≤ 41 + nm.length := by
  have := FmtText.itoa_length_le hw
  simp [line]
  omega
end Go.Proofs.YbulkdlxeFmt.lawC
