/-
  Seat b6000559a: schoolbook subtraction on functions from places to digits. No Go in sight.
-/
import Derived.Test.Qxb6000559aTrimP
namespace Go.Proofs.Qxb6000559a.Num

/-- the place in the text of digit i, the point standing at whole -/
def ix (whole i : Nat) : Nat := if i < whole then i else i + 1

/-- The borrow when the m last places have been worked off. -/
def bo (A B : Nat → Int) (whole n : Nat) : Nat → Int
  | 0 => 0
  | m + 1 => if n - (m + 1) = whole then bo A B whole n m else if A (n - (m + 1)) - B (n - (m + 1)) - bo A B whole n m < 0 then 1 else 0

theorem bo_01 (A B : Nat → Int) (whole n : Nat) : ∀ m, bo A B whole n m = 0 ∨ bo A B whole n m = 1
  | 0 => .inl rfl
  | m + 1 => by
    unfold bo
    split
    · exact bo_01 A B whole n m
    · split
      · exact .inr rfl
      · exact .inl rfl

/-- The byte that is written at place j. -/
def zz (A B : Nat → Int) (whole n j : Nat) : Int :=
  if j = whole then 46 else 48 + (A j - B j - bo A B whole n (n - (j + 1))) + 10 * bo A B whole n (n - j)

/-- The borrow out of digit i. -/
def cc (A B : Nat → Int) (whole n i : Nat) : Int := bo A B whole n (n - ix whole i)

theorem cc_step {A B : Nat → Int} {whole N n : Nat} (hn : n = N + 1) (hw : whole ≤ N) (i : Nat) (hi : i < N) :
    cc A B whole n i = (if A (ix whole i) - B (ix whole i) - cc A B whole n (i + 1) < 0 then 1 else 0) ∧ zz A B whole n (ix whole i) = 48 + (A (ix whole i) - B (ix whole i) - cc A B whole n (i + 1)) + 10 * cc A B whole n i := by
  have hne : ix whole i ≠ whole := by unfold ix; split <;> omega
  have hlt : ix whole i < n := by unfold ix; split <;> omega
  have key : bo A B whole n (n - (ix whole i + 1)) = cc A B whole n (i + 1) := by
    unfold cc
    by_cases h1 : i + 1 = whole
    · have e1 : ix whole i = i := by unfold ix; rw [if_pos (by omega)]
      have e2 : ix whole (i + 1) = i + 2 := by unfold ix; rw [if_neg (by omega)]
      rw [e1, e2]
      have e3 : n - (i + 1) = (n - (i + 2)) + 1 := by omega
      rw [e3, bo, if_pos (by omega)]
    · have e1 : ix whole (i + 1) = ix whole i + 1 := by
        unfold ix
        by_cases h2 : i < whole
        · rw [if_pos h2, if_pos (by omega)]
        · rw [if_neg h2, if_neg (by omega)]
      rw [e1]
  constructor
  · rw [← key]
    unfold cc
    have e : n - ix whole i = (n - (ix whole i + 1)) + 1 := by omega
    rw [e, bo]
    have e2 : n - (n - (ix whole i + 1) + 1) = ix whole i := by omega
    rw [e2, if_neg hne]
  · rw [← key]
    unfold zz
    rw [if_neg hne]; rfl

theorem cc_end {A B : Nat → Int} {whole N n : Nat} (hn : n = N + 1) (hw : whole ≤ N) : cc A B whole n N = 0 := by
  unfold cc ix
  rw [if_neg (by omega)]
  have e : n - (N + 1) = 0 := by omega
  rw [e]; rfl

/-- the digits of the difference -/
def dz (A B : Nat → Int) (whole n i : Nat) : Nat := (zz A B whole n (ix whole i) - 48).toNat

section
variable {A B : Nat → Int} {DA DB : Nat → Nat} {whole N n : Nat}

theorem cc_01 (i : Nat) : cc A B whole n i = 0 ∨ cc A B whole n i = 1 := bo_01 A B whole n _

theorem dz_eq (hn : n = N + 1) (hw : whole ≤ N) (hA : ∀ i, i < N → A (ix whole i) = 48 + (DA i : Int)) (hB : ∀ i, i < N → B (ix whole i) = 48 + (DB i : Int)) (dA : ∀ i, DA i < 10) (dB : ∀ i, DB i < 10) (i : Nat) (hi : i < N) :
    (dz A B whole n i : Int) = (DA i : Int) - DB i - cc A B whole n (i + 1) + 10 * cc A B whole n i ∧ dz A B whole n i < 10 ∧ zz A B whole n (ix whole i) = 48 + (dz A B whole n i : Int) := by
  obtain ⟨h1, h2⟩ := cc_step (A := A) (B := B) hn hw i hi
  have h3 := hA i hi
  have h4 := hB i hi
  have h5 := dA i
  have h6 := dB i
  have h7 := cc_01 (A := A) (B := B) (whole := whole) (n := n) (i + 1)
  unfold dz
  rw [h3, h4] at h1 h2
  rw [h2]
  split at h1 <;> omega

theorem sub_law (hn : n = N + 1) (hw : whole ≤ N) (hA : ∀ i, i < N → A (ix whole i) = 48 + (DA i : Int)) (hB : ∀ i, i < N → B (ix whole i) = 48 + (DB i : Int)) (dA : ∀ i, DA i < 10) (dB : ∀ i, DB i < 10) :
    ∀ (d k : Nat), k + d = N → (numF (fun i => DA (k + i)) d : Int) + 10 ^ d * cc A B whole n k = numF (fun i => DB (k + i)) d + numF (fun i => dz A B whole n (k + i)) d
  | 0, k, h => by
    have e : k = N := by omega
    subst e
    rw [cc_end hn hw]; simp [numF]
  | d + 1, k, h => by
    have ih := sub_law hn hw hA hB dA dB d (k + 1) (by omega)
    obtain ⟨h1, _, _⟩ := dz_eq hn hw hA hB dA dB k (by omega)
    have s : ∀ f : Nat → Nat, (numF (fun i => f (k + i)) (d + 1) : Int) = (f k : Int) * 10 ^ d + numF (fun i => f (k + 1 + i)) d := by
      intro f
      have := numF_add (fun i => f (k + i)) 1 d
      rw [Nat.add_comm 1 d] at this
      rw [this]
      have e1 : numF (fun i => f (k + i)) 1 = f k := by simp [numF]
      have e2 : (fun i => f (k + (1 + i))) = (fun i => f (k + 1 + i)) := by funext i; rw [Nat.add_assoc]
      rw [e1, e2]
      push_cast; rfl
    rw [s DA, s DB, s (dz A B whole n), Int.pow_succ]
    generalize (10 : Int) ^ d = T at *
    generalize cc A B whole n (k + 1) = c1 at *
    generalize cc A B whole n k = c0 at *
    rw [h1]
    have e1 : ((DA k : Int) - DB k - c1 + 10 * c0) * T = DA k * T - DB k * T - T * c1 + T * 10 * c0 := by
      rw [Int.add_mul, Int.sub_mul, Int.sub_mul, Int.mul_comm c1 T, Int.mul_comm (10 * c0) T, Int.mul_assoc T 10 c0]
    rw [e1]
    generalize (DA k : Int) * T = x at *
    generalize (DB k : Int) * T = y at *
    generalize T * c1 = z at *
    generalize T * 10 * c0 = u at *
    omega

/-- a at least b: no borrow is left, and the digits write the difference. -/
theorem sub_num (hn : n = N + 1) (hw : whole ≤ N) (hA : ∀ i, i < N → A (ix whole i) = 48 + (DA i : Int)) (hB : ∀ i, i < N → B (ix whole i) = 48 + (DB i : Int)) (dA : ∀ i, DA i < 10) (dB : ∀ i, DB i < 10)
    (hle : numF DB N ≤ numF DA N) : numF (dz A B whole n) N + numF DB N = numF DA N := by
  have h0 := sub_law hn hw hA hB dA dB N 0 (by omega)
  simp only [Nat.zero_add] at h0
  have h : (numF DA N : Int) + 10 ^ N * cc A B whole n 0 = numF DB N + numF (dz A B whole n) N := h0
  clear h0
  have h1 : numF (dz A B whole n) N < 10 ^ N := numF_lt fun i hi => (dz_eq hn hw hA hB dA dB i hi).2.1
  have h2 : ((10 ^ N : Nat) : Int) = (10 : Int) ^ N := by push_cast; rfl
  rw [← h2] at h
  rcases cc_01 (A := A) (B := B) (whole := whole) (n := n) 0 with h3 | h3
  · rw [h3, Int.mul_zero] at h; omega
  · rw [h3, Int.mul_one] at h; omega

end

/-! ### texts whose bytes are known -/

/-- digits that stop: finer units add zeros -/
theorem numF_more {f : Nat → Nat} (m : Nat) (h : ∀ i, m ≤ i → f i = 0) (d : Nat) : numF f (m + d) = numF f m * 10 ^ d := by
  have e : numF (fun i => f (m + i)) d = 0 := numF_zero fun i _ => h _ (by omega)
  rw [numF_add, e]; simp

theorem V_more {s : ByteArray} {p k : Nat} (h : ∀ i, p + k ≤ i → D s p i = 0) (K : Nat) (hK : k ≤ K) : V s p K = V s p k * 10 ^ (K - k) := by
  unfold V
  have e : p + K = (p + k) + (K - k) := by omega
  rw [e]; exact numF_more _ h _

theorem D_zero {s : ByteArray} {p : Nat} (k : Nat) (hk : s.size ≤ p + 1 + k) : ∀ i, p + k ≤ i → D s p i = 0 := fun i hi => D_out s p i (by omega) (by omega)

/-- digits of a padded in front to whole digits -/
def padD (s : ByteArray) (p whole i : Nat) : Nat := if i < whole - p then 0 else D s p (i - (whole - p))

theorem padD_num (s : ByteArray) (p whole k : Nat) (h : p ≤ whole) : numF (padD s p whole) (whole + k) = V s p k := by
  have e : whole + k = (whole - p) + (p + k) := by omega
  rw [e, numF_skip]
  · unfold V
    apply numF_congr
    intro i _
    show padD s p whole (whole - p + i) = _
    unfold padD
    rw [if_neg (by omega)]; congr 1; omega
  · intro i hi
    unfold padD; rw [if_pos hi]

theorem padD_lt {s : ByteArray} {p whole : Nat} (h : Digs s p) (i : Nat) : padD s p whole i < 10 := by
  unfold padD
  split
  · omega
  · exact D_lt h _

theorem padD_zero {s : ByteArray} {p whole k : Nat} (hw : p ≤ whole) (hk : s.size ≤ p + 1 + k) (i : Nat) (hi : whole + k ≤ i) : padD s p whole i = 0 := by
  unfold padD
  rw [if_neg (by omega)]
  exact D_out s p _ (by omega) (by omega)

end Go.Proofs.Qxb6000559a.Num
