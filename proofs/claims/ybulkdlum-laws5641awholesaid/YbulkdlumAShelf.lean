/-
  DERIVED: THE SHELF's CONTRACTS AT THIS DUMP, IN PLAIN WORDS (tools/lay-plain.mjs out of 'YbaShelf.lean', which tools/lay-shelf.mjs wrote): THE SAME DECLARATIONS UNDER THE SAME NAMES: 'import', 'namespace', 'open', 'def', 'theorem' AND NOTHING ELSE: no command of the shelf's: FOR A HAND-IN. Each laying: the table of numbers ('.._ren') and one theorem, a field a fact of the dump's own or the kernel's comparison; each contract: ONE APPLICATION.
-/
import Derived.Shelf.SlGeneric
import Derived.Shelf.SlicesE.Clone
import Derived.Shelf.SlicesQ.Contains
import Derived.Shelf.SlicesQ.Equal
import Derived.Ground.SlgnProg
import Derived.Ground.SlgqProg
import Derived.Test.YbulkdlumProg
namespace Go.Proofs
open Go.Shelf
def Yba.cloneL_ren : Go.Shelf.Ren := ⟨fun | 41 => 5 | n => n, fun | 22 => 24 | 23 => 26 | 4 => 4 | n => n, fun | n => n⟩
theorem Yba.cloneL : Go.Proofs.SlLaysE0.n41 Yba.prog Yba.cloneL_ren := {
  mixed := by kernel_rfl
  f41 := ⟨Yba.f5.name, by decide, Yba.func5.trans (congrArg some (by kernel_rfl))⟩
  t4 := Yba.underlying4
  a4 := Yba.isAgg4
  z4 := Yba.sizeOf4
  v4 := Yba.zeroValue4
  t22 := Yba.underlying24
  a22 := Yba.isAgg24
  z22 := Yba.sizeOf24
  v22 := Yba.zeroValue24 }
def Yba.cloneM_ren : Go.Shelf.Ren := ⟨fun | 41 => 6 | n => n, fun | 22 => 27 | 23 => 31 | 4 => 4 | n => n, fun | n => n⟩
theorem Yba.cloneM : Go.Proofs.SlLaysE0.n41 Yba.prog Yba.cloneM_ren := {
  mixed := by kernel_rfl
  f41 := ⟨Yba.f6.name, by decide, Yba.func6.trans (congrArg some (by kernel_rfl))⟩
  t4 := Yba.underlying4
  a4 := Yba.isAgg4
  z4 := Yba.sizeOf4
  v4 := Yba.zeroValue4
  t22 := Yba.underlying27
  a22 := Yba.isAgg27
  z22 := Yba.sizeOf27
  v22 := Yba.zeroValue27 }
def Yba.cloneT_ren : Go.Shelf.Ren := ⟨fun | 41 => 7 | n => n, fun | 22 => 32 | 23 => 39 | 4 => 4 | n => n, fun | n => n⟩
theorem Yba.cloneT : Go.Proofs.SlLaysE0.n41 Yba.prog Yba.cloneT_ren := {
  mixed := by kernel_rfl
  f41 := ⟨Yba.f7.name, by decide, Yba.func7.trans (congrArg some (by kernel_rfl))⟩
  t4 := Yba.underlying4
  a4 := Yba.isAgg4
  z4 := Yba.sizeOf4
  v4 := Yba.zeroValue4
  t22 := Yba.underlying32
  a22 := Yba.isAgg32
  z22 := Yba.sizeOf32
  v22 := Yba.zeroValue32 }
def Yba.equalL_ren : Go.Shelf.Ren := ⟨fun | 8 => 9 | n => n, fun | 22 => 24 | 24 => 26 | 4 => 4 | 3 => 3 | 0 => 0 | n => n, fun | n => n⟩
theorem Yba.equalL : Go.Proofs.SlLaysQ.n8 Yba.prog Yba.equalL_ren := {
  mixed := by kernel_rfl
  f8 := ⟨Yba.f9.name, by decide, Yba.func9.trans (congrArg some (by kernel_rfl))⟩
  t0 := Yba.underlying0
  a0 := Yba.isAgg0
  z0 := Yba.sizeOf0
  v0 := Yba.zeroValue0
  t3 := Yba.underlying3
  a3 := Yba.isAgg3
  z3 := Yba.sizeOf3
  v3 := Yba.zeroValue3
  t4 := Yba.underlying4
  a4 := Yba.isAgg4
  z4 := Yba.sizeOf4
  v4 := Yba.zeroValue4
  t22 := Yba.underlying24
  a22 := Yba.isAgg24
  z22 := Yba.sizeOf24
  v22 := Yba.zeroValue24 }
def Yba.equalM_ren : Go.Shelf.Ren := ⟨fun | 8 => 10 | n => n, fun | 22 => 27 | 24 => 31 | 4 => 4 | 3 => 3 | 0 => 0 | n => n, fun | n => n⟩
theorem Yba.equalM : Go.Proofs.SlLaysQ.n8 Yba.prog Yba.equalM_ren := {
  mixed := by kernel_rfl
  f8 := ⟨Yba.f10.name, by decide, Yba.func10.trans (congrArg some (by kernel_rfl))⟩
  t0 := Yba.underlying0
  a0 := Yba.isAgg0
  z0 := Yba.sizeOf0
  v0 := Yba.zeroValue0
  t3 := Yba.underlying3
  a3 := Yba.isAgg3
  z3 := Yba.sizeOf3
  v3 := Yba.zeroValue3
  t4 := Yba.underlying4
  a4 := Yba.isAgg4
  z4 := Yba.sizeOf4
  v4 := Yba.zeroValue4
  t22 := Yba.underlying27
  a22 := Yba.isAgg27
  z22 := Yba.sizeOf27
  v22 := Yba.zeroValue27 }
end Go.Proofs
