/-
  Seat b6000559a: facts for the walk of Difference: string(x) of a row; what a round does to the row.
-/
import Derived.Test.Qxb6000559aAlign
import Derived.Laws.BytesString
namespace Go.Proofs.Qxb6000559a.Num
open Go.RowKit

theorem foldl_push (ns : List Int) : ∀ s : ByteArray, (ns.foldl (fun r n => r.push (UInt8.ofNat n.toNat)) s).data.toList = s.data.toList ++ ns.map (fun n => UInt8.ofNat n.toNat) := by
  induction ns with
  | nil => intro s; simp
  | cons n ns ih =>
    intro s
    rw [List.foldl_cons, ih]
    simp [ByteArray.push]

/-- the string that a row of n bytes f makes -/
def strOf (n : Nat) (f : Nat → Int) : ByteArray := ((List.range n).map f).foldl (fun r n => r.push (UInt8.ofNat n.toNat)) ByteArray.empty

theorem strOf_data (n : Nat) (f : Nat → Int) : (strOf n f).data.toList = (List.range n).map (fun j => UInt8.ofNat (f j).toNat) := by
  unfold strOf
  rw [foldl_push]; simp

theorem strOf_size (n : Nat) (f : Nat → Int) : (strOf n f).size = n := by
  have : (strOf n f).size = (strOf n f).data.toList.length := by simp
  rw [this, strOf_data]; simp

theorem strOf_bt (n : Nat) (f : Nat → Int) (j : Nat) (hj : j < n) (h : 0 ≤ f j ∧ f j < 256) : bt (strOf n f) j = f j := by
  unfold bt
  rw [strOf_data, List.getElem?_map, List.getElem?_range hj]
  simp only [Option.map_some, Option.getD_some]
  rw [UInt8.toNat_ofNat']
  omega

/-- string(x) -/
theorem run_string {w : World} {h n : Nat} {f : Nat → Int} (r : Row w h n f) :
    (convert 36 9 (.slice (some ⟨h, 0, none⟩) n n)).run Try.prog w = .ok (.string (strOf n f)) w := by
  rw [run_convert_bytes_string w 36 9 5 _ n n und36 Try.underlying5 Try.underlying9]
  refine run_bytesToString w ⟨h, 0, none⟩ n n ((List.range n).map f) ?_
  have := run_loadCells_list (P := Try.prog) w ⟨h, 0, none⟩ (((List.range n).map f).map (Value.int .u8)) (fun j v hj => by
    rw [List.getElem?_map, List.getElem?_map] at hj
    rcases Nat.lt_or_ge j n with h1 | h1
    · rw [List.getElem?_range h1] at hj
      simp at hj
      subst hj
      rw [add0]; exact r.cells j h1
    · rw [List.getElem?_eq_none (by simpa using h1)] at hj
      simp at hj)
  simpa using this

/-- the row while Difference works: from k on the new bytes -/
def work (A B : Nat → Int) (whole n k j : Nat) : Int := if k ≤ j then zz A B whole n j else A j

theorem work_start {A B : Nat → Int} {whole n : Nat} (j : Nat) (hj : j < n) : A j = work A B whole n n j := by
  unfold work; rw [if_neg (by omega)]
theorem work_read {A B : Nat → Int} {whole n q : Nat} : work A B whole n (q + 1) q = A q := by
  unfold work; rw [if_neg (by omega)]
theorem work_point {A B : Nat → Int} {whole n : Nat} (hA : A whole = 46) (j : Nat) : work A B whole n (whole + 1) j = work A B whole n whole j := by
  unfold work
  by_cases h : whole + 1 ≤ j
  · rw [if_pos h, if_pos (by omega)]
  · rw [if_neg h]
    by_cases h2 : whole ≤ j
    · have e : j = whole := by omega
      subst e
      rw [if_pos h2, hA]; unfold zz; rw [if_pos rfl]
    · rw [if_neg h2]
theorem work_step {A B : Nat → Int} {whole n q : Nat} {x : Int} (hx : x = zz A B whole n q) (j : Nat) : (if j = q then x else work A B whole n (q + 1) j) = work A B whole n q j := by
  unfold work
  by_cases h : j = q
  · subst h; rw [if_pos rfl, if_pos (Nat.le_refl _), hx]
  · rw [if_neg h]
    by_cases h2 : q + 1 ≤ j
    · rw [if_pos h2, if_pos (by omega)]
    · rw [if_neg h2, if_neg (by omega)]
theorem work_end {A B : Nat → Int} {whole n : Nat} (j : Nat) : work A B whole n 0 j = zz A B whole n j := by
  unfold work; rw [if_pos (Nat.zero_le _)]

theorem bo_point {A B : Nat → Int} {whole n : Nat} (h : whole < n) : bo A B whole n (n - whole) = bo A B whole n (n - (whole + 1)) := by
  have e : n - whole = (n - (whole + 1)) + 1 := by omega
  rw [e, bo, if_pos (by omega)]
theorem bo_step {A B : Nat → Int} {whole n q : Nat} (h : q < n) (hq : q ≠ whole) : bo A B whole n (n - q) = if A q - B q - bo A B whole n (n - (q + 1)) < 0 then 1 else 0 := by
  have e : n - q = (n - (q + 1)) + 1 := by omega
  have e2 : n - (n - (q + 1) + 1) = q := by omega
  rw [e, bo, e2, if_neg hq]
theorem zz_neg {A B : Nat → Int} {whole n q : Nat} (h : q < n) (hq : q ≠ whole) (hd : A q - B q - bo A B whole n (n - (q + 1)) < 0) : zz A B whole n q = 48 + (A q - B q - bo A B whole n (n - (q + 1)) + 10) := by
  unfold zz; rw [if_neg hq, bo_step h hq, if_pos hd]; omega
theorem zz_pos {A B : Nat → Int} {whole n q : Nat} (h : q < n) (hq : q ≠ whole) (hd : ¬ A q - B q - bo A B whole n (n - (q + 1)) < 0) : zz A B whole n q = 48 + (A q - B q - bo A B whole n (n - (q + 1))) := by
  unfold zz; rw [if_neg hq, bo_step h hq, if_neg hd]; omega

theorem zz_range {A B : Nat → Int} {whole n j : Nat} (h : j < n) (hA : j ≠ whole → 48 ≤ A j ∧ A j ≤ 57) (hB : j ≠ whole → 48 ≤ B j ∧ B j ≤ 57) : 0 ≤ zz A B whole n j ∧ zz A B whole n j < 256 := by
  by_cases e : j = whole
  · unfold zz; rw [if_pos e]; omega
  · have h1 := hA e
    have h2 := hB e
    have h3 := bo_01 A B whole n (n - (j + 1))
    by_cases hd : A j - B j - bo A B whole n (n - (j + 1)) < 0
    · rw [zz_neg h e hd]; omega
    · rw [zz_pos h e hd]; omega

theorem al_range {s : ByteArray} {p whole places : Nat} (hd : Digs s p) (hw : p ≤ whole) (hf : (fr s p).size ≤ places) (q : Nat) (hq : q < whole + places + 1) (hne : q ≠ whole) :
    48 ≤ alF (s.extract 0 p) (fr s p) whole q ∧ alF (s.extract 0 p) (fr s p) whole q ≤ 57 := by
  have key : ∀ i, i < whole + places → ix whole i = q → 48 ≤ alF (s.extract 0 p) (fr s p) whole q ∧ alF (s.extract 0 p) (fr s p) whole q ≤ 57 := by
    intro i hi e
    have h1 := al_digit (places := places) hd hw hf i hi
    have h2 := padD_lt (whole := whole) hd i
    rw [e] at h1; omega
  rcases Nat.lt_or_ge q whole with h | h
  · exact key q (by omega) (by unfold ix; rw [if_pos h])
  · exact key (q - 1) (by omega) (by unfold ix; rw [if_neg (by omega)]; omega)

theorem al_point (W F : ByteArray) (whole : Nat) : alF W F whole whole = 46 := by
  unfold alF; rw [if_neg (by omega), if_pos rfl]

end Go.Proofs.Qxb6000559a.Num
