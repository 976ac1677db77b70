/-
  DERIVED: THE SHELF's CONTRACTS AT THIS DUMP, IN PLAIN WORDS (tools/lay-plain.mjs out of 'Qxb6605817aDoorShelf.lean', which tools/lay-shelf.mjs wrote): THE SAME DECLARATIONS UNDER THE SAME NAMES: 'import', 'namespace', 'open', 'def', 'theorem' AND NOTHING ELSE: no command of the shelf's: FOR A HAND-IN. Each laying: the table of numbers ('.._ren') and one theorem, a field a fact of the dump's own or the kernel's comparison; each contract: ONE APPLICATION.
-/
import Derived.Shelf.Strings.Search1
import Derived.Shelf.Strings.Search2
import Derived.Shelf.Strings.Search3
import Derived.Test.Qxb6605817aDoorProg
namespace Go.Proofs
open Go.Shelf
def Tryd.lays143_ren : Go.Shelf.Ren := ⟨fun | 143 => 37 | 219 => 39 | 217 => 40 | 225 => 41 | 224 => 42 | 267 => 43 | 266 => 44 | 314 => 45 | n => n, fun | 9 => 9 | 3 => 3 | 4 => 4 | 5 => 5 | 46 => 79 | 146 => 86 | 51 => 85 | n => n, fun | 1 => 2 | n => n⟩
theorem Tryd.lays143 : Go.Proofs.Lays.n143 Tryd.prog Tryd.lays143_ren := {
  mixed := by kernel_rfl
  f143 := Tryd.func37.trans (congrArg some (by kernel_rfl))
  f217 := Tryd.func40.trans (congrArg some (by kernel_rfl))
  f219 := Tryd.func39.trans (congrArg some (by kernel_rfl))
  f224 := Tryd.func42.trans (congrArg some (by kernel_rfl))
  f225 := Tryd.func41.trans (congrArg some (by kernel_rfl))
  f266 := Tryd.func44.trans (congrArg some (by kernel_rfl))
  f267 := Tryd.func43.trans (congrArg some (by kernel_rfl))
  f314 := Tryd.func45.trans (congrArg some (by kernel_rfl))
  t3 := Tryd.underlying3
  a3 := Tryd.isAgg3
  z3 := Tryd.sizeOf3
  v3 := Tryd.zeroValue3
  t4 := Tryd.underlying4
  a4 := Tryd.isAgg4
  z4 := Tryd.sizeOf4
  v4 := Tryd.zeroValue4
  t5 := Tryd.underlying5
  a5 := Tryd.isAgg5
  z5 := Tryd.sizeOf5
  v5 := Tryd.zeroValue5
  t9 := Tryd.underlying9
  a9 := Tryd.isAgg9
  z9 := Tryd.sizeOf9
  v9 := Tryd.zeroValue9
  t46 := Tryd.underlying79
  a46 := Tryd.isAgg79
  z46 := Tryd.sizeOf79
  v46 := Tryd.zeroValue79
  t51 := Tryd.underlying85
  a51 := Tryd.isAgg85
  z51 := Tryd.sizeOf85
  v51 := Tryd.zeroValue85
  t146 := Tryd.underlying86
  a146 := Tryd.isAgg86
  z146 := Tryd.sizeOf86
  v146 := Tryd.zeroValue86
  g1 := by kernel_rfl }
open Go.RowKit Go.Lib in
/-- strings.Index: "Index returns the index of the first instance of substr in s, or -1 if substr is not present in s.": AT A substr OF ONE BYTE c: IT RETURNS 'Lib.indexByte s c'; the world is as it was. (LAID: no walk: one application.) -/
theorem Tryd.strings_Index_one (s : ByteArray) (c : UInt8) (w : World) :
    Calls Tryd.prog 37 #[.string s, .string ⟨#[c]⟩] w fun e w' => e = .returned (.int .i64 (Lib.indexByte s.data.toList c)) ∧ w' = w := Any.strings_Index_one Tryd.lays143 s c w
end Go.Proofs
