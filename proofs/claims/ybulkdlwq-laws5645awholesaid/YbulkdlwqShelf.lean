/-
  DERIVED: THE SHELF's CONTRACTS AT THIS DUMP, IN PLAIN WORDS (tools/lay-plain.mjs out of 'YbaShelf.lean', which tools/lay-shelf.mjs wrote): THE SAME DECLARATIONS UNDER THE SAME NAMES: 'import', 'namespace', 'open', 'def', 'theorem' AND NOTHING ELSE: no command of the shelf's: FOR A HAND-IN. Each laying: the table of numbers ('.._ren') and one theorem, a field a fact of the dump's own or the kernel's comparison; each contract: ONE APPLICATION.
-/
import Derived.Ground.SlgnProg
import Derived.Shelf.SlicesE.Equal
import Derived.Shelf.SlicesE.Clone
import Derived.Test.YbulkdlwqProg
namespace Go.Proofs
open Go.Shelf
def Yba.laysSlE33_f8_ren : Go.Shelf.Ren := ⟨fun | 33 => 8 | n => n, fun | 22 => 24 | 23 => 27 | 4 => 4 | 3 => 3 | 0 => 0 | n => n, fun | n => n⟩
theorem Yba.laysSlE33_f8 : Go.Proofs.SlLaysE.n33 Yba.prog Yba.laysSlE33_f8_ren := {
  mixed := by kernel_rfl
  f33 := ⟨Yba.f8.name, by decide, Yba.func8.trans (congrArg some (by kernel_rfl))⟩
  t0 := Yba.underlying0
  a0 := Yba.isAgg0
  z0 := Yba.sizeOf0
  v0 := Yba.zeroValue0
  t3 := Yba.underlying3
  a3 := Yba.isAgg3
  z3 := Yba.sizeOf3
  v3 := Yba.zeroValue3
  t4 := Yba.underlying4
  a4 := Yba.isAgg4
  z4 := Yba.sizeOf4
  v4 := Yba.zeroValue4
  t22 := Yba.underlying24
  a22 := Yba.isAgg24
  z22 := Yba.sizeOf24
  v22 := Yba.zeroValue24
  a23 := Yba.isAgg27
  z23 := Yba.sizeOf27 }
open Go.RowKit Go.Lib in
/-- slices.Equal: "Equal reports whether two slices are equal: the same length and all elements equal. .. Empty and nil slices are considered equal. Floating point NaNs are not considered equal.": IT RETURNS 'Lib.allEq eq (the one's elements) (the other's)'; the world is as it was but for the count of draws. (LAID AT THE INSTANCE 'slices.Equal[[]uint32,uint32]': no walk: one application.) -/
theorem Yba.slices_Equal {α : Type} [Inhabited α] (enc : α → Value) (eq : α → α → Bool) (hne : NeqAt Yba.prog 27 enc eq) (b1 o1 n c b2 o2 m d : Nat) (xs ys : List α) (w : World) (hx : n ≤ xs.length) (hy : m ≤ ys.length) (hbig : n ≤ 9223372036854775807) (hbig2 : m ≤ 9223372036854775807) (hc1 : ∀ j, j < xs.length → w.cell? ⟨b1, o1 + j, none⟩ = some (enc xs[j]!)) (hc2 : ∀ j, j < ys.length → w.cell? ⟨b2, o2 + j, none⟩ = some (enc ys[j]!)) :
    Calls Yba.prog 8 #[.slice (some ⟨b1, o1, none⟩) n c, .slice (some ⟨b2, o2, none⟩) m d] w fun e w' => e = .returned (.bool (Lib.allEq eq (xs.take n) (ys.take m))) ∧ ∃ q, w' = w.drewN q := AnyE.slices_Equal Yba.laysSlE33_f8 enc eq hne b1 o1 n c b2 o2 m d xs ys w hx hy hbig hbig2 hc1 hc2
def Yba.laysSlE041_f5_ren : Go.Shelf.Ren := ⟨fun | 41 => 5 | n => n, fun | 22 => 24 | 23 => 27 | 4 => 4 | n => n, fun | n => n⟩
theorem Yba.laysSlE041_f5 : Go.Proofs.SlLaysE0.n41 Yba.prog Yba.laysSlE041_f5_ren := {
  mixed := by kernel_rfl
  f41 := ⟨Yba.f5.name, by decide, Yba.func5.trans (congrArg some (by kernel_rfl))⟩
  t4 := Yba.underlying4
  a4 := Yba.isAgg4
  z4 := Yba.sizeOf4
  v4 := Yba.zeroValue4
  t22 := Yba.underlying24
  a22 := Yba.isAgg24
  z22 := Yba.sizeOf24
  v22 := Yba.zeroValue24 }
open Go.RowKit Go.Lib in
/-- slices.Clone: "Clone returns a copy of the slice. The elements are copied using assignment, so this is a shallow clone. The result may have additional unused capacity. The result preserves the nilness of s.": OF A SLICE THAT IS NOT nil IT RETURNS A SLICE THAT IS NOT nil, OF THE SAME CELLS, IN MEMORY OF THE CALL's OWN ('ownsRow': the how-to's 6f); below the heap's size at the call all is as it was. (LAID AT THE INSTANCE 'slices.Clone[[]uint32,uint32]': no walk: one application.) -/
theorem Yba.slices_Clone (i0 : TypeInfo) (z : Value) (size bytes : Nat) (hi : Yba.prog.info? 27 = some i0) (hz0 : i0.zero = some z) (hz1 : i0.size = size) (hz2 : i0.bytes = bytes) (hzs : z.cells.size = size) (hsz : 0 < size) (z23 : ∀ w, (Go.sizeOf 27).run Yba.prog w = .ok size w) (b off n c : Nat) (news : List Value) (w : World) (hl : news.length = n * size) (hn : n ≤ maxLen) (hbig : n * bytes ≤ 140737488355328) (hc : ∀ j u, news[j]? = some u → w.cell? ⟨b, off + j, none⟩ = some u) (h1 : ∀ u ∈ news, u.oneCell' = true) :
    Calls Yba.prog 5 #[.slice (some ⟨b, off, none⟩) n c] w fun e w' => ∃ v', e = .returned v' ∧ w'.ownsRow w.heap.size 27 size v' n news ∧ v' ≠ .slice none 0 0 ∧ Below w.heap.size w w' := AnyE.slices_Clone Yba.laysSlE041_f5 i0 z size bytes hi hz0 hz1 hz2 hzs hsz z23 b off n c news w hl hn hbig hc h1
open Go.RowKit Go.Lib in
/-- The same at nil: nil comes back; the world is as it was; nothing is asked of the element's type. (LAID AT THE INSTANCE 'slices.Clone[[]uint32,uint32]': no walk: one application.) -/
theorem Yba.slices_Clone_nil (n c : Nat) (w : World) :
    Calls Yba.prog 5 #[.slice none n c] w fun e w' => e = .returned (.slice none 0 0) ∧ w' = w := AnyE.slices_Clone_nil Yba.laysSlE041_f5 n c w
end Go.Proofs
