/-
  Seat b6000630a: rows of bools in memory; what the model's rounds do to them.
-/
import Derived.Test.Qxb6000630aMatch
import Derived.Deep.OwnRows
namespace Go.Proofs.Qxb6000630a.Wild
open Go.RowKit

/-- The first N cells of block h hold the bools f; none is frozen. -/
structure BRow (w : World) (h N : Nat) (f : Nat → Bool) : Prop where
  cells : ∀ j, j < N → w.cell? ⟨h, j, none⟩ = some (.bool (f j))
  free : ∀ j, j < N → w.frozen? ⟨h, j, none⟩ = false

theorem BRow.drewN {w : World} {h N : Nat} {f : Nat → Bool} (r : BRow w h N f) (n : Nat) : BRow (w.drewN n) h N f := ⟨r.cells, r.free⟩

theorem BRow.below {B : Nat} {w w' : World} {h N : Nat} {f : Nat → Bool} (r : BRow w h N f) (hb : Below B w w') (hB : h < B) : BRow w' h N f :=
  ⟨fun j hj => by rw [hb.cell (p := ⟨h, j, none⟩) hB]; exact r.cells j hj, fun j hj => by rw [hb.frozen (p := ⟨h, j, none⟩) hB]; exact r.free j hj⟩

theorem BRow.congr {w : World} {h N : Nat} {f g : Nat → Bool} (r : BRow w h N f) (e : ∀ j, j < N → f j = g j) : BRow w h N g :=
  ⟨fun j hj => by rw [← e j hj]; exact r.cells j hj, r.free⟩

theorem BRow.set {w : World} {h N : Nat} {f : Nat → Bool} (r : BRow w h N f) (k : Nat) (hk : k < N) (x : Bool) : BRow (w.setCell ⟨h, k, none⟩ (.bool x)) h N (fun j => if j = k then x else f j) := by
  refine ⟨fun j hj => ?_, fun j hj => ?_⟩
  · by_cases e : j = k
    · subst e
      have := r.cells j hj
      rw [World.cell?_setCell_same' _ _ _ (by rw [this]; rfl)]; simp
    · rw [World.cell?_setCell_other _ _ _ _ (by simp)]
      simp [e]; exact r.cells j hj
  · have := r.free j hj
    rw [← this]; simp

theorem BRow.other {w : World} {h N b k : Nat} {f : Nat → Bool} (r : BRow w h N f) (hne : ¬ h = b) (v : Value) : BRow (w.setCell ⟨b, k, none⟩ v) h N f := by
  refine ⟨fun j hj => ?_, fun j hj => ?_⟩
  · rw [World.cell?_setCell_other _ _ _ _ (by simp)]
    exact r.cells j hj
  · have := r.free j hj
    rw [← this]; simp

theorem brow_made (w : World) (N : Nat) : BRow (w.alloc (.cells (madeCells #[.bool false] N) 4)) w.heap.size N (fun _ => false) := by
  refine ⟨fun j hj => ?_, fun j hj => ?_⟩
  · rw [World.cell?_alloc_mark]
    simp [madeCells, hj, Nat.mod_one]
  · have := World.frozen?_alloc_mark w (madeCells #[.bool false] N) 4 0 0 j
    rw [this]; simp

theorem und45 : Try.prog.underlying 45 = some (.slice 4) := Try.underlying45
theorem mkb (N : Nat) (hN : N ≤ 1048577) : ∀ W, (Instr.makeSlice 45 (.int .i64 (N : Int)) (.int .i64 (N : Int))).run Try.prog W = .ok (.slice (some ⟨W.heap.size, 0, none⟩) N N) (W.alloc (.cells (madeCells #[.bool false] N) 4)) :=
  fun W => run_make_row' 45 4 (.bool false) 1 und45 (by kernel_rfl) rfl .i64 .i64 N (by omega) (by omega) W

/-! ### the model's inner rounds -/

/-- clearing: the first q are false -/
def clr (g : Nat → Bool) (q x : Nat) : Bool := if x < q then false else g x
theorem clr_zero (g : Nat → Bool) (x : Nat) : g x = clr g 0 x := by unfold clr; rw [if_neg (by omega)]
theorem clr_step (g : Nat → Bool) (q x : Nat) : (if x = q then false else clr g q x) = clr g (q + 1) x := by
  unfold clr
  by_cases h : x = q
  · rw [if_pos h, if_pos (by omega)]
  · rw [if_neg h]
    by_cases h2 : x < q
    · rw [if_pos h2, if_pos (by omega)]
    · rw [if_neg h2, if_neg (by omega)]

/-- seen, ahead of place q -/
def sb (R : Nat → Bool) : Nat → Bool
  | 0 => false
  | q + 1 => seen R q
theorem sb_succ (R : Nat → Bool) : ∀ q, sb R (q + 1) = (sb R q || R q)
  | 0 => by simp [sb, seen]
  | q + 1 => by simp [sb, seen]

/-- next, when the places below q have been tried -/
def nx (S : List UInt8) (R : Nat → Bool) (part : List UInt8) (q x : Nat) : Bool := decide (part.length ≤ x ∧ x - part.length < q) && (seen R (x - part.length) && eqAt S (x - part.length) part)

theorem nx_zero (S : List UInt8) (R : Nat → Bool) (part : List UInt8) (g : Nat → Bool) (N x : Nat) (hx : x < N) : clr g N x = nx S R part 0 x := by
  unfold clr nx
  rw [if_pos hx]
  simp

theorem nx_same {S : List UInt8} {R : Nat → Bool} {part : List UInt8} {q : Nat} (h : (seen R q && eqAt S q part) = false) (x : Nat) : nx S R part q x = nx S R part (q + 1) x := by
  unfold nx
  by_cases e : part.length ≤ x ∧ x - part.length = q
  · obtain ⟨h1, h2⟩ := e
    rw [h2, h]; simp
  · congr 1
    apply decide_eq_decide.2
    omega

theorem nx_set {S : List UInt8} {R : Nat → Bool} {part : List UInt8} {q : Nat} (h1 : seen R q = true) (h2 : eqAt S q part = true) (x : Nat) : (if x = q + part.length then true else nx S R part q x) = nx S R part (q + 1) x := by
  by_cases e : x = q + part.length
  · subst e
    rw [if_pos rfl]
    unfold nx
    have e2 : q + part.length - part.length = q := by omega
    rw [e2, h1, h2]
    simp
  · rw [if_neg e]
    unfold nx
    congr 1
    apply decide_eq_decide.2
    omega

theorem nx_end (S : List UInt8) (R : Nat → Bool) (part : List UInt8) (N x : Nat) (hx : x < N) : nx S R part N x = step S R part x := by
  unfold nx step
  congr 1
  apply decide_eq_decide.2
  omega

end Go.Proofs.Qxb6000630a.Wild
