/-
  Seat b6000591a: a row of bytes in memory; the walks of copyBytes, LastIndexByte, position.
-/
import Derived.Test.Qxb6000591aProg
import Derived.Test.Qxb6000591aPlain
import Derived.Test.Qxb6000591aShelf
import Derived.WalkKit
import Derived.WalkSpells
import Derived.WalkLawsBesides
import Derived.Lib.SlBytesConst
import Derived.Deep.OwnRows
import Derived.Deep.LoopGhost
import Derived.OpenShut
namespace Go.Proofs.Qxb6000591a.Pos
open Go.RowKit

/-- The first N cells of block h hold the bytes f; none is frozen. -/
structure Row (w : World) (h N : Nat) (f : Nat → Int) : Prop where
  cells : ∀ j, j < N → w.cell? ⟨h, j, none⟩ = some (.int .u8 (f j))
  free : ∀ j, j < N → w.frozen? ⟨h, j, none⟩ = false

theorem Row.below {B : Nat} {w w' : World} {h N : Nat} {f : Nat → Int} (r : Row w h N f) (hb : Below B w w') (hB : h < B) : Row w' h N f :=
  ⟨fun j hj => by rw [hb.cell (p := ⟨h, j, none⟩) hB]; exact r.cells j hj, fun j hj => by rw [hb.frozen (p := ⟨h, j, none⟩) hB]; exact r.free j hj⟩

theorem Row.congr {w : World} {h N : Nat} {f g : Nat → Int} (r : Row w h N f) (e : ∀ j, j < N → f j = g j) : Row w h N g :=
  ⟨fun j hj => by rw [← e j hj]; exact r.cells j hj, r.free⟩

theorem Row.set {w : World} {h N : Nat} {f : Nat → Int} (r : Row w h N f) (k : Nat) (hk : k < N) (x : Int) : Row (w.setCell ⟨h, k, none⟩ (.int .u8 x)) h N (fun j => if j = k then x else f j) := by
  refine ⟨fun j hj => ?_, fun j hj => ?_⟩
  · by_cases e : j = k
    · subst e
      have := r.cells j hj
      rw [World.cell?_setCell_same' _ _ _ (by rw [this]; rfl)]; simp
    · rw [World.cell?_setCell_other _ _ _ _ (by simp)]
      simp [e]; exact r.cells j hj
  · have := r.free j hj
    rw [← this]; simp

theorem row_made (w : World) (n : Nat) : Row (w.alloc (.cells (madeCells #[.int .u8 0] n) 5)) w.heap.size n (fun _ => 0) := by
  refine ⟨fun j hj => ?_, fun j hj => ?_⟩
  · rw [World.cell?_alloc_mark]
    simp [madeCells, hj, Nat.mod_one]
  · have := World.frozen?_alloc_mark w (madeCells #[.int .u8 0] n) 5 0 0 j
    rw [this]; simp

theorem und24 : Try.prog.underlying 24 = some (.slice 5) := Try.underlying24

/-- what copyBytes hands back -/
def Copied (w : World) (n : Nat) (f : Nat → Int) (e : Ending) (w' : World) : Prop :=
  e = .returned (.slice (some ⟨w.heap.size, 0, none⟩) n n) ∧ Row w' w.heap.size n f ∧ w.heap.size < w'.heap.size ∧ Below w.heap.size w w'

set_option maxHeartbeats 1000000 in
theorem copy_nil (w : World) : Calls Try.prog 13 #[.slice none 0 0] w fun e w' => e = .returned (.slice none 0 0) ∧ w' = w := by
  have hnil : ∀ w, (binOp .eql 24 (.slice none 0 0) (.slice none 0 0)).run Try.prog w = .ok (.bool true) w := fun w => by
    have := Lib.run_eql_slice_nil (P := Try.prog) w 24 5 none 0 0 0 0 und24
    simpa using this
  go_enter Try.func13, Try.ntmps13
  go_wp2_with fail
  go_ret
  exact ⟨rfl, rfl⟩

end Go.Proofs.Qxb6000591a.Pos
