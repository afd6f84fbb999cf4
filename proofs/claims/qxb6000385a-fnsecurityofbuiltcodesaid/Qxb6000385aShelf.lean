/-
  DERIVED: THE SHELF's CONTRACTS AT THIS DUMP, IN PLAIN WORDS (tools/lay-plain.mjs out of 'Qxb6000385aShelf.lean', which tools/lay-shelf.mjs wrote): THE SAME DECLARATIONS UNDER THE SAME NAMES: 'import', 'namespace', 'open', 'def', 'theorem' AND NOTHING ELSE: no command of the shelf's: FOR A HAND-IN. Each laying: the table of numbers ('.._ren') and one theorem, a field a fact of the dump's own or the kernel's comparison; each contract: ONE APPLICATION.
-/
import Derived.Shelf.Strings.Search2
import Derived.Shelf.Strings.LastIndex
import Derived.Test.Qxb6000385aProg
namespace Go.Proofs
open Go.Shelf
def Try.lays219_ren : Go.Shelf.Ren := ⟨fun | 219 => 31 | 217 => 32 | 225 => 33 | 224 => 34 | 267 => 35 | 266 => 36 | 314 => 37 | n => n, fun | 9 => 9 | 3 => 3 | 4 => 4 | 5 => 5 | 46 => 37 | 146 => 34 | 51 => 33 | n => n, fun | 1 => 0 | n => n⟩
theorem Try.lays219 : Go.Proofs.Lays.n219 Try.prog Try.lays219_ren := {
  mixed := by kernel_rfl
  f217 := Try.func32.trans (congrArg some (by kernel_rfl))
  f219 := Try.func31.trans (congrArg some (by kernel_rfl))
  f224 := Try.func34.trans (congrArg some (by kernel_rfl))
  f225 := Try.func33.trans (congrArg some (by kernel_rfl))
  f266 := Try.func36.trans (congrArg some (by kernel_rfl))
  f267 := Try.func35.trans (congrArg some (by kernel_rfl))
  f314 := Try.func37.trans (congrArg some (by kernel_rfl))
  t3 := Try.underlying3
  a3 := Try.isAgg3
  z3 := Try.sizeOf3
  v3 := Try.zeroValue3
  t4 := Try.underlying4
  a4 := Try.isAgg4
  z4 := Try.sizeOf4
  v4 := Try.zeroValue4
  t5 := Try.underlying5
  a5 := Try.isAgg5
  z5 := Try.sizeOf5
  v5 := Try.zeroValue5
  t9 := Try.underlying9
  a9 := Try.isAgg9
  z9 := Try.sizeOf9
  v9 := Try.zeroValue9
  t46 := Try.underlying37
  a46 := Try.isAgg37
  z46 := Try.sizeOf37
  v46 := Try.zeroValue37
  t51 := Try.underlying33
  a51 := Try.isAgg33
  z51 := Try.sizeOf33
  v51 := Try.zeroValue33
  t146 := Try.underlying34
  a146 := Try.isAgg34
  z146 := Try.sizeOf34
  v146 := Try.zeroValue34
  g1 := by kernel_rfl }
open Go.RowKit Go.Lib in
/-- internal/stringslite.Index (what strings.Index calls) AT A substr OF ONE BYTE c: IT RETURNS 'Lib.indexByte s c'; the world is as it was. (LAID: no walk: one application.) -/
theorem Try.stringslite_Index_one (s : ByteArray) (c : UInt8) (w : World) :
    Calls Try.prog 31 #[.string s, .string ⟨#[c]⟩] w fun e w' => e = .returned (.int .i64 (Lib.indexByte s.data.toList c)) ∧ w' = w := Any.stringslite_Index_one Try.lays219 s c w
def Try.lays148_ren : Go.Shelf.Ren := ⟨fun | 148 => 16 | 222 => 21 | 223 => 22 | 269 => 26 | n => n, fun | 9 => 9 | 3 => 3 | 4 => 4 | 5 => 5 | 146 => 34 | 51 => 33 | 46 => 37 | n => n, fun | n => n⟩
theorem Try.lays148 : Go.Proofs.Lays.n148 Try.prog Try.lays148_ren := {
  mixed := by kernel_rfl
  f148 := Try.func16.trans (congrArg some (by kernel_rfl))
  f222 := Try.func21.trans (congrArg some (by kernel_rfl))
  f223 := Try.func22.trans (congrArg some (by kernel_rfl))
  f269 := Try.func26.trans (congrArg some (by kernel_rfl))
  t3 := Try.underlying3
  a3 := Try.isAgg3
  z3 := Try.sizeOf3
  v3 := Try.zeroValue3
  t4 := Try.underlying4
  a4 := Try.isAgg4
  z4 := Try.sizeOf4
  v4 := Try.zeroValue4
  t5 := Try.underlying5
  a5 := Try.isAgg5
  z5 := Try.sizeOf5
  v5 := Try.zeroValue5
  t9 := Try.underlying9
  a9 := Try.isAgg9
  z9 := Try.sizeOf9
  v9 := Try.zeroValue9
  t46 := Try.underlying37
  a46 := Try.isAgg37
  z46 := Try.sizeOf37
  v46 := Try.zeroValue37
  t51 := Try.underlying33
  a51 := Try.isAgg33
  z51 := Try.sizeOf33
  v51 := Try.zeroValue33
  t146 := Try.underlying34
  a146 := Try.isAgg34
  z146 := Try.sizeOf34
  v146 := Try.zeroValue34 }
open Go.RowKit Go.Lib in
theorem Try.strings_LastIndex_one (s sub : ByteArray) (h1 : sub.size = 1) (hs : s.size < 4611686018427387904) (w : World) :
    Calls Try.prog 16 #[.string s, .string sub] w fun e w' => e = .returned (.int .i64 (Lib.lastIndexByte s ((sub[0]'(by omega)).toNat : Int))) ∧ w' = w := Any.strings_LastIndex_one Try.lays148 s sub h1 hs w
end Go.Proofs
