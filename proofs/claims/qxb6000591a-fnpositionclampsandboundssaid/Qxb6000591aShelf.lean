/-
  DERIVED: THE SHELF's CONTRACTS AT THIS DUMP, IN PLAIN WORDS (tools/lay-plain.mjs out of 'Qxb6000591aShelf.lean', which tools/lay-shelf.mjs wrote): THE SAME DECLARATIONS UNDER THE SAME NAMES: 'import', 'namespace', 'open', 'def', 'theorem' AND NOTHING ELSE: no command of the shelf's: FOR A HAND-IN. Each laying: the table of numbers ('.._ren') and one theorem, a field a fact of the dump's own or the kernel's comparison; each contract: ONE APPLICATION.
-/
import Derived.Shelf.Bytes.SlCountOne
import Derived.Test.Qxb6000591aProg
namespace Go.Proofs
open Go.Shelf
def Try.laysSlB13_ren : Go.Shelf.Ren := ⟨fun | 13 => 20 | 24 => 22 | 25 => 23 | 12 => 24 | 31 => 26 | 19 => 27 | 20 => 28 | 21 => 29 | 22 => 30 | 23 => 31 | 29 => 32 | 30 => 33 | n => n, fun | 22 => 24 | 3 => 3 | 4 => 4 | 0 => 0 | 5 => 5 | 9 => 9 | 33 => 37 | 40 => 39 | 39 => 38 | n => n, fun | 0 => 0 | n => n⟩
theorem Try.laysSlB13 : Go.Proofs.SlLaysB.n13 Try.prog Try.laysSlB13_ren := {
  mixed := by kernel_rfl
  f13 := Try.func20.trans (congrArg some (by kernel_rfl))
  f25 := Try.func23.trans (congrArg some (by kernel_rfl))
  t0 := Try.underlying0
  a0 := Try.isAgg0
  z0 := Try.sizeOf0
  v0 := Try.zeroValue0
  t3 := Try.underlying3
  a3 := Try.isAgg3
  z3 := Try.sizeOf3
  v3 := Try.zeroValue3
  t4 := Try.underlying4
  a4 := Try.isAgg4
  z4 := Try.sizeOf4
  v4 := Try.zeroValue4
  t5 := Try.underlying5
  a5 := Try.isAgg5
  z5 := Try.sizeOf5
  v5 := Try.zeroValue5
  t22 := Try.underlying24
  a22 := Try.isAgg24
  z22 := Try.sizeOf24
  v22 := Try.zeroValue24 }
open Go.RowKit Go.Lib in
theorem Try.bytes_Count_one (b o n c b2 o2 d : Nat) (xs : List Int) (cv : Int) (w : World) (hx : xs.length = n) (hc : ∀ i, i < n → w.cell? ⟨b, o + i, none⟩ = some (.int .u8 (xs.getD i 0))) (hc2 : w.cell? ⟨b2, o2, none⟩ = some (.int .u8 cv)) :
    Calls Try.prog 20 #[.slice (some ⟨b, o, none⟩) n c, .slice (some ⟨b2, o2, none⟩) 1 d] w fun e w' => e = .returned (.int .i64 (Lib.countByte (Lib.bytesOf xs) cv.toNat.toUInt8)) ∧ w' = w := Any.bytes_Count_one Try.laysSlB13 b o n c b2 o2 d xs cv w hx hc hc2
open Go.RowKit Go.Lib in
theorem Try.bytes_Count_one_nil (b2 o2 d : Nat) (cv : Int) (w : World) (hc2 : w.cell? ⟨b2, o2, none⟩ = some (.int .u8 cv)) :
    Calls Try.prog 20 #[.slice none 0 0, .slice (some ⟨b2, o2, none⟩) 1 d] w fun e w' => e = .returned (.int .i64 0) ∧ w' = w := Any.bytes_Count_one_nil Try.laysSlB13 b2 o2 d cv w hc2
end Go.Proofs
