/-
  DERIVED: THE SHELF's CONTRACTS AT THIS DUMP, IN PLAIN WORDS (tools/lay-plain.mjs out of 'Qxb6000559aShelf.lean', which tools/lay-shelf.mjs wrote): THE SAME DECLARATIONS UNDER THE SAME NAMES: 'import', 'namespace', 'open', 'def', 'theorem' AND NOTHING ELSE: no command of the shelf's: FOR A HAND-IN. Each laying: the table of numbers ('.._ren') and one theorem, a field a fact of the dump's own or the kernel's comparison; each contract: ONE APPLICATION.
-/
import Derived.Shelf.Small.Strs
import Derived.Shelf.Strings.Search2
import Derived.Shelf.Bits.Mul64
import Derived.Test.Qxb6000559aProg
namespace Go.Proofs
open Go.Shelf
def Try.lays137_ren : Go.Shelf.Ren := ⟨fun | 137 => 37 | 217 => 40 | 266 => 44 | n => n, fun | 9 => 9 | 5 => 5 | 3 => 3 | n => n, fun | n => n⟩
theorem Try.lays137 : Go.Proofs.Lays.n137 Try.prog Try.lays137_ren := {
  mixed := by kernel_rfl
  f137 := Try.func37.trans (congrArg some (by kernel_rfl))
  f217 := Try.func40.trans (congrArg some (by kernel_rfl))
  f266 := Try.func44.trans (congrArg some (by kernel_rfl))
  t3 := Try.underlying3
  a3 := Try.isAgg3
  z3 := Try.sizeOf3
  v3 := Try.zeroValue3
  t5 := Try.underlying5
  a5 := Try.isAgg5
  z5 := Try.sizeOf5
  v5 := Try.zeroValue5
  t9 := Try.underlying9
  a9 := Try.isAgg9
  z9 := Try.sizeOf9
  v9 := Try.zeroValue9 }
open Go.RowKit in
theorem Try.strings_IndexByte (s : ByteArray) (c : Int) (w : World) :
    Calls Try.prog 37 #[.string s, .int .u8 c] w fun e w' => e = .returned (.int .i64 (Lib.indexByte s.data.toList c.toNat.toUInt8)) ∧ w' = w := Any.strings_IndexByte Try.lays137 s c w
def Try.lays219_ren : Go.Shelf.Ren := ⟨fun | 219 => 41 | 217 => 40 | 225 => 45 | 224 => 46 | 267 => 47 | 266 => 44 | 314 => 50 | n => n, fun | 9 => 9 | 3 => 3 | 4 => 4 | 5 => 5 | 46 => 41 | 146 => 49 | 51 => 48 | n => n, fun | 1 => 0 | n => n⟩
theorem Try.lays219 : Go.Proofs.Lays.n219 Try.prog Try.lays219_ren := {
  mixed := by kernel_rfl
  f217 := Try.func40.trans (congrArg some (by kernel_rfl))
  f219 := Try.func41.trans (congrArg some (by kernel_rfl))
  f224 := Try.func46.trans (congrArg some (by kernel_rfl))
  f225 := Try.func45.trans (congrArg some (by kernel_rfl))
  f266 := Try.func44.trans (congrArg some (by kernel_rfl))
  f267 := Try.func47.trans (congrArg some (by kernel_rfl))
  f314 := Try.func50.trans (congrArg some (by kernel_rfl))
  t3 := Try.underlying3
  a3 := Try.isAgg3
  z3 := Try.sizeOf3
  v3 := Try.zeroValue3
  t4 := Try.underlying4
  a4 := Try.isAgg4
  z4 := Try.sizeOf4
  v4 := Try.zeroValue4
  t5 := Try.underlying5
  a5 := Try.isAgg5
  z5 := Try.sizeOf5
  v5 := Try.zeroValue5
  t9 := Try.underlying9
  a9 := Try.isAgg9
  z9 := Try.sizeOf9
  v9 := Try.zeroValue9
  t46 := Try.underlying41
  a46 := Try.isAgg41
  z46 := Try.sizeOf41
  v46 := Try.zeroValue41
  t51 := Try.underlying48
  a51 := Try.isAgg48
  z51 := Try.sizeOf48
  v51 := Try.zeroValue48
  t146 := Try.underlying49
  a146 := Try.isAgg49
  z146 := Try.sizeOf49
  v146 := Try.zeroValue49
  g1 := by kernel_rfl }
open Go.RowKit Go.Lib in
theorem Try.stringslite_Index_one (s : ByteArray) (c : UInt8) (w : World) :
    Calls Try.prog 41 #[.string s, .string ⟨#[c]⟩] w fun e w' => e = .returned (.int .i64 (Lib.indexByte s.data.toList c)) ∧ w' = w := Any.stringslite_Index_one Try.lays219 s c w
def Try.lays264_ren : Go.Shelf.Ren := ⟨fun | 264 => 49 | n => n, fun | 53 => 40 | 46 => 41 | n => n, fun | n => n⟩
theorem Try.lays264 : Go.Proofs.Lays.n264 Try.prog Try.lays264_ren := {
  mixed := by kernel_rfl
  f264 := Try.func49.trans (congrArg some (by kernel_rfl))
  t46 := Try.underlying41
  a46 := Try.isAgg41
  z46 := Try.sizeOf41
  v46 := Try.zeroValue41
  t53 := Try.underlying40
  a53 := Try.isAgg40
  z53 := Try.sizeOf40
  v53 := Try.zeroValue40 }
open Go.RowKit Go.Lib in
theorem Try.bits_Mul64 (x y : Nat) (hx : x < 18446744073709551616) (hy : y < 18446744073709551616) (w : World) :
    Calls Try.prog 49 #[.int .u64 x, .int .u64 y] w fun e w' => e = .returned (.tuple #[.int .u64 ((x * y / 18446744073709551616 : Nat) : Int), .int .u64 ((x * y % 18446744073709551616 : Nat) : Int)]) ∧ w' = w := Any.bits_Mul64 Try.lays264 x y hx hy w
def Try.lays212_ren : Go.Shelf.Ren := ⟨fun | 212 => 42 | 263 => 48 | 264 => 49 | n => n, fun | 46 => 41 | 51 => 48 | 146 => 49 | 53 => 40 | 148 => 51 | n => n, fun | n => n⟩
theorem Try.lays212 : Go.Proofs.Lays.n212 Try.prog Try.lays212_ren := {
  mixed := by kernel_rfl
  f212 := Try.func42.trans (congrArg some (by kernel_rfl))
  f263 := Try.func48.trans (congrArg some (by kernel_rfl))
  f264 := Try.func49.trans (congrArg some (by kernel_rfl))
  t46 := Try.underlying41
  a46 := Try.isAgg41
  z46 := Try.sizeOf41
  v46 := Try.zeroValue41
  t51 := Try.underlying48
  a51 := Try.isAgg48
  z51 := Try.sizeOf48
  v51 := Try.zeroValue48
  t53 := Try.underlying40
  a53 := Try.isAgg40
  z53 := Try.sizeOf40
  v53 := Try.zeroValue40
  t146 := Try.underlying49
  a146 := Try.isAgg49
  z146 := Try.sizeOf49
  v146 := Try.zeroValue49
  t148 := Try.underlying51
  a148 := Try.isAgg51
  z148 := Try.sizeOf51
  v148 := Try.zeroValue51 }
open Go.RowKit Go.Lib in
theorem Try.bits_Mul (x y : Nat) (hx : x < 18446744073709551616) (hy : y < 18446744073709551616) (w : World) :
    Calls Try.prog 42 #[.int .u64 x, .int .u64 y] w fun e w' => e = .returned (.tuple #[.int .u64 ((x * y / 18446744073709551616 : Nat) : Int), .int .u64 ((x * y % 18446744073709551616 : Nat) : Int)]) ∧ w' = w := Any.bits_Mul Try.lays212 x y hx hy w
end Go.Proofs
