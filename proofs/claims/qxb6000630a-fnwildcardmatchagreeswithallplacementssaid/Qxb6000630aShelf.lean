/-
  DERIVED: THE SHELF's CONTRACTS AT THIS DUMP, IN PLAIN WORDS (tools/lay-plain.mjs out of 'Qxb6000630aShelf.lean', which tools/lay-shelf.mjs wrote): THE SAME DECLARATIONS UNDER THE SAME NAMES: 'import', 'namespace', 'open', 'def', 'theorem' AND NOTHING ELSE: no command of the shelf's: FOR A HAND-IN. Each laying: the table of numbers ('.._ren') and one theorem, a field a fact of the dump's own or the kernel's comparison; each contract: ONE APPLICATION.
-/
import Derived.Shelf.Strings.Search3
import Derived.Shelf.LaysM
import Derived.Shelf.Strings.Shaped
import Derived.Shelf.Strings.Prefix
import Derived.Test.Qxb6000630aProg
namespace Go.Proofs
open Go.Shelf
def Try.lays143_ren : Go.Shelf.Ren := ⟨fun | 143 => 30 | 219 => 33 | 217 => 34 | 225 => 35 | 224 => 36 | 267 => 37 | 266 => 38 | 314 => 39 | n => n, fun | 9 => 9 | 3 => 3 | 4 => 4 | 5 => 5 | 46 => 57 | 146 => 59 | 51 => 58 | n => n, fun | 1 => 0 | n => n⟩
theorem Try.lays143 : Go.Proofs.Lays.n143 Try.prog Try.lays143_ren := {
  mixed := by kernel_rfl
  f143 := Try.func30.trans (congrArg some (by kernel_rfl))
  f217 := Try.func34.trans (congrArg some (by kernel_rfl))
  f219 := Try.func33.trans (congrArg some (by kernel_rfl))
  f224 := Try.func36.trans (congrArg some (by kernel_rfl))
  f225 := Try.func35.trans (congrArg some (by kernel_rfl))
  f266 := Try.func38.trans (congrArg some (by kernel_rfl))
  f267 := Try.func37.trans (congrArg some (by kernel_rfl))
  f314 := Try.func39.trans (congrArg some (by kernel_rfl))
  t3 := Try.underlying3
  a3 := Try.isAgg3
  z3 := Try.sizeOf3
  v3 := Try.zeroValue3
  t4 := Try.underlying4
  a4 := Try.isAgg4
  z4 := Try.sizeOf4
  v4 := Try.zeroValue4
  t5 := Try.underlying5
  a5 := Try.isAgg5
  z5 := Try.sizeOf5
  v5 := Try.zeroValue5
  t9 := Try.underlying9
  a9 := Try.isAgg9
  z9 := Try.sizeOf9
  v9 := Try.zeroValue9
  t46 := Try.underlying57
  a46 := Try.isAgg57
  z46 := Try.sizeOf57
  v46 := Try.zeroValue57
  t51 := Try.underlying58
  a51 := Try.isAgg58
  z51 := Try.sizeOf58
  v51 := Try.zeroValue58
  t146 := Try.underlying59
  a146 := Try.isAgg59
  z146 := Try.sizeOf59
  v146 := Try.zeroValue59
  g1 := by kernel_rfl }
open Go.RowKit Go.Lib in
theorem Try.strings_Index (s sub : ByteArray) (m : Int) (w : World) (hs : s.size < 4294967281) (hm : w.cell? ⟨0, 0, none⟩ = some (.int .i64 m)) :
    Calls Try.prog 30 #[.string s, .string sub] w fun e w' => e = .returned (.int .i64 (Lib.index s.data.toList sub.data.toList)) ∧ w' = w := Any.strings_Index Try.lays143 s sub m w hs hm
def Try.laysM143_ren : Go.Shelf.Ren := ⟨fun | 143 => 30 | 219 => 33 | 217 => 34 | 225 => 35 | 224 => 36 | 267 => 37 | 266 => 38 | 314 => 39 | n => n, fun | 9 => 9 | 3 => 3 | 4 => 4 | 5 => 5 | 46 => 57 | 146 => 59 | 51 => 58 | n => n, fun | 1 => 0 | n => n⟩
theorem Try.laysM143 : Go.Proofs.LaysM.n143 Try.prog Try.laysM143_ren := {
  mixed := by kernel_rfl
  f143 := Try.func30.trans (congrArg some (by kernel_rfl))
  f217 := Try.func34.trans (congrArg some (by kernel_rfl))
  f219 := Try.func33.trans (congrArg some (by kernel_rfl))
  f224 := Try.func36.trans (congrArg some (by kernel_rfl))
  f225 := Try.func35.trans (congrArg some (by kernel_rfl))
  f266 := Try.func38.trans (congrArg some (by kernel_rfl))
  f267 := Try.func37.trans (congrArg some (by kernel_rfl))
  f314 := Try.func39.trans (congrArg some (by kernel_rfl))
  t3 := Try.underlying3
  a3 := Try.isAgg3
  z3 := Try.sizeOf3
  v3 := Try.zeroValue3
  t4 := Try.underlying4
  a4 := Try.isAgg4
  z4 := Try.sizeOf4
  v4 := Try.zeroValue4
  t5 := Try.underlying5
  a5 := Try.isAgg5
  z5 := Try.sizeOf5
  v5 := Try.zeroValue5
  t9 := Try.underlying9
  a9 := Try.isAgg9
  z9 := Try.sizeOf9
  v9 := Try.zeroValue9
  t46 := Try.underlying57
  a46 := Try.isAgg57
  z46 := Try.sizeOf57
  v46 := Try.zeroValue57
  t51 := Try.underlying58
  a51 := Try.isAgg58
  z51 := Try.sizeOf58
  v51 := Try.zeroValue58
  t146 := Try.underlying59
  a146 := Try.isAgg59
  z146 := Try.sizeOf59
  v146 := Try.zeroValue59
  g1 := by kernel_rfl
  i3 := by kernel_rfl
  i4 := by kernel_rfl
  i5 := by kernel_rfl
  i9 := by kernel_rfl
  i46 := by kernel_rfl
  i51 := by kernel_rfl
  i146 := by kernel_rfl
  m1 := by kernel_rfl
  s1_3 := fun w h => Go.Proofs.cell_of_shapedOpen_int (zero := #[.int .i64 0]) (t := 3) h (of_decide_eq_true (by kernel_rfl)) (by kernel_rfl) rfl (by kernel_rfl) (by kernel_rfl) Try.underlying3 }
open Go.RowKit Go.Lib in
theorem Try.strings_Index_shaped (s sub : ByteArray) (w : World) (h : w.ShapedOpen Try.prog) (hs : s.size < 4294967281) :
    Calls Try.prog 30 #[.string s, .string sub] w fun e w' => e = .returned (.int .i64 (Lib.index s.data.toList sub.data.toList)) ∧ w' = w := Any.strings_Index_shaped Try.laysM143 s sub w h hs
def Try.lays99_ren : Go.Shelf.Ren := ⟨fun | 99 => 28 | 206 => 31 | n => n, fun | 9 => 9 | 4 => 4 | 3 => 3 | n => n, fun | n => n⟩
theorem Try.lays99 : Go.Proofs.Lays.n99 Try.prog Try.lays99_ren := {
  mixed := by kernel_rfl
  f99 := Try.func28.trans (congrArg some (by kernel_rfl))
  f206 := Try.func31.trans (congrArg some (by kernel_rfl))
  t3 := Try.underlying3
  a3 := Try.isAgg3
  z3 := Try.sizeOf3
  v3 := Try.zeroValue3
  t4 := Try.underlying4
  a4 := Try.isAgg4
  z4 := Try.sizeOf4
  v4 := Try.zeroValue4
  t9 := Try.underlying9
  a9 := Try.isAgg9
  z9 := Try.sizeOf9
  v9 := Try.zeroValue9 }
open Go.RowKit Go.Lib in
theorem Try.strings_HasPrefix (s p : ByteArray) (w : World) :
    Calls Try.prog 28 #[.string s, .string p] w fun e w' => e = .returned (.bool (Lib.hasPrefix s.data.toList p.data.toList)) ∧ w' = w := Any.strings_HasPrefix Try.lays99 s p w
def Try.lays100_ren : Go.Shelf.Ren := ⟨fun | 100 => 29 | 207 => 32 | n => n, fun | 9 => 9 | 4 => 4 | 3 => 3 | n => n, fun | n => n⟩
theorem Try.lays100 : Go.Proofs.Lays.n100 Try.prog Try.lays100_ren := {
  mixed := by kernel_rfl
  f100 := Try.func29.trans (congrArg some (by kernel_rfl))
  f207 := Try.func32.trans (congrArg some (by kernel_rfl))
  t3 := Try.underlying3
  a3 := Try.isAgg3
  z3 := Try.sizeOf3
  v3 := Try.zeroValue3
  t4 := Try.underlying4
  a4 := Try.isAgg4
  z4 := Try.sizeOf4
  v4 := Try.zeroValue4
  t9 := Try.underlying9
  a9 := Try.isAgg9
  z9 := Try.sizeOf9
  v9 := Try.zeroValue9 }
open Go.RowKit Go.Lib in
theorem Try.strings_HasSuffix (s p : ByteArray) (w : World) (hs : s.size ≤ 9223372036854775807) :
    Calls Try.prog 29 #[.string s, .string p] w fun e w' => e = .returned (.bool (Lib.hasSuffix s.data.toList p.data.toList)) ∧ w' = w := Any.strings_HasSuffix Try.lays100 s p w hs
end Go.Proofs
