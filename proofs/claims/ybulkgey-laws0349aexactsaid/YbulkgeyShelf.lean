/-
  DERIVED: THE SHELF's CONTRACTS AT THIS DUMP, IN PLAIN WORDS (tools/lay-plain.mjs out of 'YbulkgeyShelf.lean', which tools/lay-shelf.mjs wrote): THE SAME DECLARATIONS UNDER THE SAME NAMES: 'import', 'namespace', 'open', 'def', 'theorem' AND NOTHING ELSE: no command of the shelf's: FOR A HAND-IN. Each laying: the table of numbers ('.._ren') and one theorem, a field a fact of the dump's own or the kernel's comparison; each contract: ONE APPLICATION.
-/
import Derived.Shelf.Small.Strs
import Derived.Test.YbulkgeyProg
namespace Go.Proofs
open Go.Shelf
def Yba.lays213_ren : Go.Shelf.Ren := ⟨fun | 213 => 58 | 265 => 73 | n => n, fun | 9 => 9 | 3 => 3 | n => n, fun | n => n⟩
theorem Yba.lays213 : Go.Proofs.Lays.n213 Yba.prog Yba.lays213_ren := {
  mixed := by kernel_rfl
  f213 := Yba.func58.trans (congrArg some (by kernel_rfl))
  f265 := Yba.func73.trans (congrArg some (by kernel_rfl))
  t3 := Yba.underlying3
  a3 := Yba.isAgg3
  z3 := Yba.sizeOf3
  v3 := Yba.zeroValue3
  t9 := Yba.underlying9
  a9 := Yba.isAgg9
  z9 := Yba.sizeOf9
  v9 := Yba.zeroValue9 }
open Go.RowKit in
/-- internal/bytealg.CompareString (what strings.Compare calls): IT RETURNS 'Lib.compareBytes a b'; the world is as it was. (LAID: no walk: one application.) -/
theorem Yba.bytealg_CompareString (a b : ByteArray) (w : World) :
    Calls Yba.prog 58 #[.string a, .string b] w fun e w' => e = .returned (.int .i64 (Lib.compareBytes a.data.toList b.data.toList)) ∧ w' = w := Any.bytealg_CompareString Yba.lays213 a b w
def Yba.lays106_ren : Go.Shelf.Ren := ⟨fun | 106 => 37 | 213 => 58 | 265 => 73 | n => n, fun | 9 => 9 | 3 => 3 | n => n, fun | n => n⟩
theorem Yba.lays106 : Go.Proofs.Lays.n106 Yba.prog Yba.lays106_ren := {
  mixed := by kernel_rfl
  f106 := Yba.func37.trans (congrArg some (by kernel_rfl))
  f213 := Yba.func58.trans (congrArg some (by kernel_rfl))
  f265 := Yba.func73.trans (congrArg some (by kernel_rfl))
  t3 := Yba.underlying3
  a3 := Yba.isAgg3
  z3 := Yba.sizeOf3
  v3 := Yba.zeroValue3
  t9 := Yba.underlying9
  a9 := Yba.isAgg9
  z9 := Yba.sizeOf9
  v9 := Yba.zeroValue9 }
open Go.RowKit in
/-- strings.Compare: "Compare returns an integer comparing two strings lexicographically. The result will be 0 if a == b, -1 if a < b, and +1 if a > b.": IT RETURNS 'Lib.compareBytes a b'; the world is as it was. (LAID: no walk: one application.) -/
theorem Yba.strings_Compare (a b : ByteArray) (w : World) :
    Calls Yba.prog 37 #[.string a, .string b] w fun e w' => e = .returned (.int .i64 (Lib.compareBytes a.data.toList b.data.toList)) ∧ w' = w := Any.strings_Compare Yba.lays106 a b w
end Go.Proofs
