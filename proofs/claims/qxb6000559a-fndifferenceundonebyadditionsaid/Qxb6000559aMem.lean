/-
  Seat b6000559a: a row of bytes in memory, told by its cells.
-/
import Derived.Test.Qxb6000559aProg
import Derived.WalkKit
import Derived.WalkSpells
import Derived.WalkLawsBesides
import Derived.Lib.SlBuf
import Derived.Lib.LazyBuf
import Derived.Deep.Draws
namespace Go.Proofs.Qxb6000559a.Num
open Go.RowKit

/-- The first N cells of block h hold the bytes f; none is frozen. -/
structure Row (w : World) (h N : Nat) (f : Nat → Int) : Prop where
  cells : ∀ j, j < N → w.cell? ⟨h, j, none⟩ = some (.int .u8 (f j))
  free : ∀ j, j < N → w.frozen? ⟨h, j, none⟩ = false

theorem Row.drewN {w : World} {h N : Nat} {f : Nat → Int} (r : Row w h N f) (n : Nat) : Row (w.drewN n) h N f := ⟨r.cells, r.free⟩

theorem Row.below {B : Nat} {w w' : World} {h N : Nat} {f : Nat → Int} (r : Row w h N f) (hb : Below B w w') (hB : h < B) : Row w' h N f :=
  ⟨fun j hj => by rw [hb.cell (p := ⟨h, j, none⟩) hB]; exact r.cells j hj, fun j hj => by rw [hb.frozen (p := ⟨h, j, none⟩) hB]; exact r.free j hj⟩

theorem Row.congr {w : World} {h N : Nat} {f g : Nat → Int} (r : Row w h N f) (e : ∀ j, j < N → f j = g j) : Row w h N g :=
  ⟨fun j hj => by rw [← e j hj]; exact r.cells j hj, r.free⟩

theorem Row.set {w : World} {h N : Nat} {f : Nat → Int} (r : Row w h N f) (k : Nat) (hk : k < N) (x : Int) : Row (w.setCell ⟨h, k, none⟩ (.int .u8 x)) h N (fun j => if j = k then x else f j) := by
  refine ⟨fun j hj => ?_, fun j hj => ?_⟩
  · by_cases e : j = k
    · subst e
      have := r.cells j hj
      rw [World.cell?_setCell_same' _ _ _ (by rw [this]; rfl)]; simp
    · rw [World.cell?_setCell_other _ _ _ _ (by simp)]
      simp [e]; exact r.cells j hj
  · have := r.free j hj
    rw [← this]; simp

theorem Row.other {w : World} {h N b k : Nat} {f : Nat → Int} (r : Row w h N f) (hne : ¬ h = b) (v : Value) : Row (w.setCell ⟨b, k, none⟩ v) h N f := by
  refine ⟨fun j hj => ?_, fun j hj => ?_⟩
  · rw [World.cell?_setCell_other _ _ _ _ (by simp)]
    exact r.cells j hj
  · have := r.free j hj
    rw [← this]; simp

def u8s (l : List UInt8) : List Value := l.map fun x => Value.int .u8 (x.toNat : Int)

/-- 'copy' of the bytes l to place o on -/
theorem Row.put {w : World} {h N : Nat} {f : Nat → Int} (r : Row w h N f) (o : Nat) (l : List UInt8) (hl : o + l.length ≤ N) :
    Row (w.setCells h o (u8s l)) h N (fun j => if o ≤ j ∧ j < o + l.length then ((l[j - o]?).getD 0).toNat else f j) := by
  have hlen : (u8s l).length = l.length := by simp [u8s]
  have hin := World.cell?_setCells_in h (u8s l) o w (fun j hj => by rw [r.cells _ (by omega)]; rfl)
  have hout := World.cell?_setCells_out h (u8s l) o w
  refine ⟨fun j hj => ?_, fun j hj => ?_⟩
  · by_cases h1 : o ≤ j ∧ j < o + l.length
    · obtain ⟨d, rfl⟩ : ∃ d, j = o + d := ⟨j - o, by omega⟩
      rw [hin d (by omega), if_pos h1, Nat.add_sub_cancel_left]
      have hd : d < l.length := by omega
      simp [u8s, List.getElem?_eq_getElem hd]
    · rw [hout ⟨h, j, none⟩ (fun _ _ => by rw [hlen]; show j < _ ∨ _ ≤ j; omega), if_neg h1]
      exact r.cells j hj
  · rw [World.frozen?_setCells]; exact r.free j hj

theorem below_put {B h o : Nat} {w0 w : World} (hb : Below B w0 w) (hB : B ≤ h) (l : List UInt8) : Below B w0 (w.setCells h o (u8s l)) := Lib.below_setCells h hB _ _ hb

theorem und36 : Try.prog.underlying 36 = some (.slice 5) := Try.underlying36
theorem inf5 : (Try.prog.info? 5).map (·.size) = some 1 := by kernel_rfl
theorem siz5 : ∀ w, (Go.sizeOf 5).run Try.prog w = .ok 1 w := fun _ => by kernel_rfl

end Go.Proofs.Qxb6000559a.Num
