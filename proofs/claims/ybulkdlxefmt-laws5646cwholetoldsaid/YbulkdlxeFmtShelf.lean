/-
  DERIVED: THE SHELF's CONTRACTS AT THIS DUMP, IN PLAIN WORDS (tools/lay-plain.mjs out of 'YbafShelf.lean', which tools/lay-shelf.mjs wrote): THE SAME DECLARATIONS UNDER THE SAME NAMES: 'import', 'namespace', 'open', 'def', 'theorem' AND NOTHING ELSE: no command of the shelf's: FOR A HAND-IN. Each laying: the table of numbers ('.._ren') and one theorem, a field a fact of the dump's own or the kernel's comparison; each contract: ONE APPLICATION.
-/
import Derived.Shelf.Strconv.Itoa0
import Derived.Shelf.Strconv.Itoa1
import Derived.Shelf.LaysM
import Derived.Shelf.Strconv.Itoa2
import Derived.Shelf.Strconv.Itoa3
import Derived.Test.YbulkdlxeFmtRows
namespace Go.Proofs
open Go.Shelf
def Ybaf.laysM171_ren : Go.Shelf.Ren := ⟨fun | 171 => 6 | 243 => 10 | 246 => 11 | 283 => 12 | 284 => 13 | 285 => 14 | 286 => 15 | 129 => 17 | 317 => 16 | 318 => 18 | 319 => 19 | 320 => 20 | 337 => 21 | 338 => 22 | n => n, fun | 3 => 3 | 9 => 9 | 2 => 2 | 4 => 4 | 171 => 30 | 0 => 0 | 53 => 31 | 37 => 34 | 5 => 5 | 173 => 35 | 212 => 39 | 51 => 40 | 20 => 20 | 213 => 41 | 46 => 42 | 232 => 45 | 233 => 46 | n => n, fun | 17 => 0 | 18 => 1 | 19 => 2 | n => n⟩
theorem Ybaf.laysM171 : Go.Proofs.LaysM.n171 Ybaf.prog Ybaf.laysM171_ren := {
  mixed := by kernel_rfl
  f129 := Ybaf.func17.trans (congrArg some (by kernel_rfl))
  f171 := Ybaf.func6.trans (congrArg some (by kernel_rfl))
  f243 := Ybaf.func10.trans (congrArg some (by kernel_rfl))
  f246 := Ybaf.func11.trans (congrArg some (by kernel_rfl))
  f283 := Ybaf.func12.trans (congrArg some (by kernel_rfl))
  f284 := Ybaf.func13.trans (congrArg some (by kernel_rfl))
  f285 := Ybaf.func14.trans (congrArg some (by kernel_rfl))
  f286 := Ybaf.func15.trans (congrArg some (by kernel_rfl))
  f317 := Ybaf.func16.trans (congrArg some (by kernel_rfl))
  f318 := Ybaf.func18.trans (congrArg some (by kernel_rfl))
  f319 := Ybaf.func19.trans (congrArg some (by kernel_rfl))
  f320 := Ybaf.func20.trans (congrArg some (by kernel_rfl))
  f337 := Ybaf.func21.trans (congrArg some (by kernel_rfl))
  f338 := Ybaf.func22.trans (congrArg some (by kernel_rfl))
  t0 := Ybaf.underlying0
  a0 := Ybaf.isAgg0
  z0 := Ybaf.sizeOf0
  v0 := Ybaf.zeroValue0
  t2 := Ybaf.underlying2
  a2 := Ybaf.isAgg2
  z2 := Ybaf.sizeOf2
  v2 := Ybaf.zeroValue2
  t3 := Ybaf.underlying3
  a3 := Ybaf.isAgg3
  z3 := Ybaf.sizeOf3
  v3 := Ybaf.zeroValue3
  t4 := Ybaf.underlying4
  a4 := Ybaf.isAgg4
  z4 := Ybaf.sizeOf4
  v4 := Ybaf.zeroValue4
  t5 := Ybaf.underlying5
  a5 := Ybaf.isAgg5
  z5 := Ybaf.sizeOf5
  v5 := Ybaf.zeroValue5
  t9 := Ybaf.underlying9
  a9 := Ybaf.isAgg9
  z9 := Ybaf.sizeOf9
  v9 := Ybaf.zeroValue9
  t20 := Ybaf.underlying20
  a20 := Ybaf.isAgg20
  z20 := Ybaf.sizeOf20
  v20 := Ybaf.zeroValue20
  t37 := Ybaf.underlying34
  a37 := Ybaf.isAgg34
  z37 := Ybaf.sizeOf34
  v37 := Ybaf.zeroValue34
  t46 := Ybaf.underlying42
  a46 := Ybaf.isAgg42
  z46 := Ybaf.sizeOf42
  v46 := Ybaf.zeroValue42
  t51 := Ybaf.underlying40
  a51 := Ybaf.isAgg40
  z51 := Ybaf.sizeOf40
  v51 := Ybaf.zeroValue40
  t53 := Ybaf.underlying31
  a53 := Ybaf.isAgg31
  z53 := Ybaf.sizeOf31
  v53 := Ybaf.zeroValue31
  t171 := Ybaf.underlying30
  a171 := Ybaf.isAgg30
  z171 := Ybaf.sizeOf30
  v171 := Ybaf.zeroValue30
  t173 := Ybaf.underlying35
  a173 := Ybaf.isAgg35
  z173 := Ybaf.sizeOf35
  v173 := Ybaf.zeroValue35
  t212 := Ybaf.underlying39
  a212 := Ybaf.isAgg39
  z212 := Ybaf.sizeOf39
  v212 := Ybaf.zeroValue39
  t213 := Ybaf.underlying41
  a213 := Ybaf.isAgg41
  z213 := Ybaf.sizeOf41
  t232 := Ybaf.underlying45
  a232 := Ybaf.isAgg45
  z232 := Ybaf.sizeOf45
  v232 := Ybaf.zeroValue45
  t233 := Ybaf.underlying46
  a233 := Ybaf.isAgg46
  z233 := Ybaf.sizeOf46
  v233 := Ybaf.zeroValue46
  g17 := by kernel_rfl
  g18 := by kernel_rfl
  g19 := by kernel_rfl
  i0 := by kernel_rfl
  i2 := by kernel_rfl
  i3 := by kernel_rfl
  i4 := by kernel_rfl
  i5 := by kernel_rfl
  i9 := by kernel_rfl
  i20 := by kernel_rfl
  i37 := by kernel_rfl
  i46 := by kernel_rfl
  i51 := by kernel_rfl
  i53 := by kernel_rfl
  i171 := by kernel_rfl
  i173 := by kernel_rfl
  i212 := by kernel_rfl
  i232 := by kernel_rfl
  i233 := by kernel_rfl
  m17 := by kernel_rfl
  m18 := by kernel_rfl
  m19 := by kernel_rfl }
/-- the name of the table of powers of ten, as the row lists it -/
def Ybaf.powName : String := (YbulkdlxeFmt.Rows.lawS5646CWholeRow.laid.map (·.1)).getLastD ""
open Go.RowKit Go.Sort Go.Lib in
/-- strconv.Itoa: "Itoa is equivalent to FormatInt(int64(i), 10).": i's DECIMAL NUMERAL ('Lib.itoa': a '-' where i is negative, then the digits), FOR EVERY int. The world behind the call: the world before it, new blocks behind the heap (the library's 'var a [24]byte'), draws. (LAID: no walk: one application.) -/
theorem Ybaf.strconv_Itoa (n : Int) (h0 : -9223372036854775808 ≤ n) (h1 : n ≤ 9223372036854775807) (w : World) (htab : Lib.TabIs Ybaf.prog w Ybaf.powName .u64 Lib.pow10Tab) :
    Calls Ybaf.prog 6 #[.int .i64 n] w fun e w' => e = .returned (.string ⟨(Lib.itoa n).toArray⟩) ∧ ∃ k os, w' = grow (w.drewN k) os := Any.strconv_Itoa Ybaf.laysM171 n h0 h1 w htab
end Go.Proofs
