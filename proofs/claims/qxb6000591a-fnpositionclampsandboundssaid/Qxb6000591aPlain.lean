/-
  Seat b6000591a: lines and columns of the first k bytes. No Go in sight.
-/
import Derived.Lib.Bytes
import Derived.Lib.Bytealg
namespace Go.Proofs.Qxb6000591a.Pos
open Go

/-- how many of the first k bytes are newlines -/
def cnt (f : Nat → Int) (k : Nat) : Nat := Lib.countByte (Lib.bytesOf ((List.range k).map f)) 10

/-- the last newline among the first k bytes, or -1 -/
def lst (f : Nat → Int) : Nat → Int
  | 0 => -1
  | k + 1 => if f k = 10 then (k : Int) else lst f k

theorem cnt_zero (f : Nat → Int) : cnt f 0 = 0 := by simp [cnt, Lib.bytesOf, Lib.countByte]

theorem cnt_succ (f : Nat → Int) (k : Nat) : cnt f (k + 1) = cnt f k + if UInt8.ofNat (f k).toNat = 10 then 1 else 0 := by
  unfold cnt Lib.countByte Lib.bytesOf
  rw [List.range_succ, List.map_append, List.map_append, List.count_append]
  simp only [List.map_cons, List.map_nil, List.count_singleton]
  congr 1
  by_cases h : UInt8.ofNat (f k).toNat = 10
  · simp [h]
  · have : (UInt8.ofNat (f k).toNat == 10) = false := by rw [beq_eq_false_iff_ne]; exact h
    simp [h]

theorem lst_range (f : Nat → Int) : ∀ k, -1 ≤ lst f k ∧ lst f k < k
  | 0 => by unfold lst; omega
  | k + 1 => by
    have := lst_range f k
    unfold lst; split <;> omega

theorem cnt_le (f : Nat → Int) : ∀ k, (∀ j, j < k → 0 ≤ f j ∧ f j < 256) → (cnt f k : Int) ≤ lst f k + 1
  | 0, _ => by rw [cnt_zero]; unfold lst; omega
  | k + 1, h => by
    have ih := cnt_le f k (fun j hj => h j (by omega))
    have hr := lst_range f k
    rw [cnt_succ]
    unfold lst
    by_cases h1 : UInt8.ofNat (f k).toNat = 10
    · have h2 : f k = 10 := by
        have h3 := congrArg UInt8.toNat h1
        rw [UInt8.toNat_ofNat'] at h3
        have h4 := h k (by omega)
        have h5 : (10 : UInt8).toNat = 10 := rfl
        omega
      rw [if_pos h1, if_pos h2]; omega
    · rw [if_neg h1]
      split <;> omega

/-- what position answers: line and column -/
theorem pos_facts (f : Nat → Int) (k : Nat) (h : ∀ j, j < k → 0 ≤ f j ∧ f j < 256) :
    1 ≤ (cnt f k : Int) + 1 ∧ 1 ≤ (k : Int) - lst f k ∧ (cnt f k : Int) + 1 - 1 + ((k : Int) - lst f k - 1) ≤ k ∧ (cnt f k : Int) ≤ k ∧ (k : Int) - lst f k ≤ k + 1 := by
  have h1 := cnt_le f k h
  have h2 := lst_range f k
  omega

end Go.Proofs.Qxb6000591a.Pos
