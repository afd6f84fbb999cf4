/-
  Seat b6000559a: schoolbook addition on functions from places to digits. No Go in sight.
-/
import Derived.Test.Qxb6000559aDiffQ
namespace Go.Proofs.Qxb6000559a.Num

/-- The carry when the m last of N digits have been worked off. -/
def cy (f g : Nat → Nat) (N : Nat) : Nat → Nat
  | 0 => 0
  | m + 1 => (cy f g N m + f (N - (m + 1)) + g (N - (m + 1))) / 10

/-- The digit that is written at digit place i. -/
def dg (f g : Nat → Nat) (N i : Nat) : Nat := (cy f g N (N - (i + 1)) + f i + g i) % 10

theorem cy_le {f g : Nat → Nat} {N : Nat} (hf : ∀ i, f i < 10) (hg : ∀ i, g i < 10) : ∀ m, cy f g N m ≤ 1
  | 0 => by simp [cy]
  | m + 1 => by
    have h1 := cy_le (N := N) hf hg m
    have h2 := hf (N - (m + 1))
    have h3 := hg (N - (m + 1))
    rw [cy]; omega

theorem cy_at (f g : Nat → Nat) (N i : Nat) (h : i < N) : cy f g N (N - i) = (cy f g N (N - (i + 1)) + f i + g i) / 10 := by
  have e : N - i = (N - (i + 1)) + 1 := by omega
  have e2 : N - (N - (i + 1) + 1) = i := by omega
  rw [e, cy, e2]

theorem add_law (f g : Nat → Nat) (N : Nat) : ∀ (d k : Nat), k + d = N → numF (fun i => dg f g N (k + i)) d + 10 ^ d * cy f g N (N - k) = numF (fun i => f (k + i)) d + numF (fun i => g (k + i)) d
  | 0, k, h => by
    have e : N - k = 0 := by omega
    rw [e]; simp [numF, cy]
  | d + 1, k, h => by
    have ih := add_law f g N d (k + 1) (by omega)
    have s : ∀ f : Nat → Nat, numF (fun i => f (k + i)) (d + 1) = f k * 10 ^ d + numF (fun i => f (k + 1 + i)) d := by
      intro f
      have := numF_add (fun i => f (k + i)) 1 d
      rw [Nat.add_comm 1 d] at this
      rw [this]
      have e1 : numF (fun i => f (k + i)) 1 = f k := by simp [numF]
      have e2 : (fun i => f (k + (1 + i))) = (fun i => f (k + 1 + i)) := by funext i; rw [Nat.add_assoc]
      rw [e1, e2]
    rw [s f, s g, s (dg f g N), Nat.pow_succ, cy_at f g N k (by omega)]
    have h1 : dg f g N k + 10 * ((cy f g N (N - (k + 1)) + f k + g k) / 10) = cy f g N (N - (k + 1)) + f k + g k := by unfold dg; omega
    generalize (cy f g N (N - (k + 1)) + f k + g k) / 10 = c0 at *
    generalize cy f g N (N - (k + 1)) = c1 at *
    generalize dg f g N k = x at *
    generalize 10 ^ d = T at *
    have h2 : (x + 10 * c0) * T = (c1 + f k + g k) * T := by rw [h1]
    rw [Nat.add_mul, Nat.add_mul, Nat.add_mul] at h2
    have e3 : T * 10 * c0 = 10 * c0 * T := by rw [Nat.mul_comm (10 * c0) T, Nat.mul_assoc]
    rw [e3]
    rw [Nat.mul_comm T c1] at ih
    omega

/-- no carry is left where both begin with a zero -/
theorem add_num {f g : Nat → Nat} {N : Nat} (hN : 0 < N) (hf : ∀ i, f i < 10) (hg : ∀ i, g i < 10) (f0 : f 0 = 0) (g0 : g 0 = 0) : numF (dg f g N) N = numF f N + numF g N := by
  have h := add_law f g N N 0 (by omega)
  simp only [Nat.zero_add, Nat.sub_zero] at h
  have e : cy f g N N = 0 := by
    have := cy_at f g N 0 hN
    rw [Nat.sub_zero] at this
    have h1 := cy_le (N := N) hf hg (N - (0 + 1))
    rw [this, f0, g0]; omega
  rw [e] at h
  have h' : numF (dg f g N) N + 10 ^ N * 0 = numF f N + numF g N := h
  omega

/-- What addPlain writes: whole + 1 digits, a point, places digits. -/
def sm (f g : Nat → Nat) (whole N j : Nat) : Int := if j = whole + 1 then 46 else if j < whole + 1 then 48 + (dg f g N j : Int) else 48 + (dg f g N (j - 1) : Int)

theorem sm_range (f g : Nat → Nat) (whole N j : Nat) : 0 ≤ sm f g whole N j ∧ sm f g whole N j < 256 := by
  have h : ∀ i, dg f g N i < 10 := fun i => by unfold dg; omega
  unfold sm
  split
  · omega
  · split
    · have := h j; omega
    · have := h (j - 1); omega

theorem sum_text {a b x : ByteArray} {pa pb whole places : Nat} (ha : Digs a pa) (hb : Digs b pb) (hwa : pa ≤ whole) (hwb : pb ≤ whole) (hfa : (fr a pa).size ≤ places) (hfb : (fr b pb).size ≤ places)
    (hx : x.size = whole + 2 + places) (hz : ∀ j, j < x.size → bt x j = sm (padD a pa (whole + 1)) (padD b pb (whole + 1)) whole (whole + 1 + places) j) :
    Digs x (whole + 1) ∧ PointAt x (whole + 1) ∧ ∀ K, places ≤ K → V x (whole + 1) K = V a pa K + V b pb K := by
  have dA : ∀ i, padD a pa (whole + 1) i < 10 := padD_lt ha
  have dB : ∀ i, padD b pb (whole + 1) i < 10 := padD_lt hb
  have a0 : padD a pa (whole + 1) 0 = 0 := by unfold padD; rw [if_pos (by omega)]
  have b0 : padD b pb (whole + 1) 0 = 0 := by unfold padD; rw [if_pos (by omega)]
  have hnum := add_num (N := whole + 1 + places) (by omega) dA dB a0 b0
  rw [padD_num b pb (whole + 1) places (by omega), padD_num a pa (whole + 1) places (by omega)] at hnum
  have hlt : ∀ i, dg (padD a pa (whole + 1)) (padD b pb (whole + 1)) (whole + 1 + places) i < 10 := fun i => by unfold dg; omega
  have hbt : ∀ j, j < x.size → bt x j = if j = whole + 1 then 46 else if j < whole + 1 then 48 + (dg (padD a pa (whole + 1)) (padD b pb (whole + 1)) (whole + 1 + places) j : Int) else 48 + (dg (padD a pa (whole + 1)) (padD b pb (whole + 1)) (whole + 1 + places) (j - 1) : Int) := hz
  clear hz
  generalize dg (padD a pa (whole + 1)) (padD b pb (whole + 1)) (whole + 1 + places) = z at *
  have hd : Digs x (whole + 1) := by
    refine ⟨by omega, fun j hj => ?_, fun j h1 h2 => ?_⟩
    · have := hlt j
      unfold Dg; rw [hbt j (by omega), if_neg (by omega), if_pos hj]; omega
    · have := hlt (j - 1)
      unfold Dg; rw [hbt j h2, if_neg (by omega), if_neg (by omega)]; omega
  have hD : ∀ i, i < whole + 1 + places → D x (whole + 1) i = z i := by
    intro i hi
    unfold D
    by_cases h : i < whole + 1
    · rw [if_pos h, hbt i (by omega), if_neg (by omega), if_pos h]; omega
    · rw [if_neg h, hbt (i + 1) (by omega), if_neg (by omega), if_neg (by omega)]
      have e : i + 1 - 1 = i := by omega
      rw [e]; omega
  have hV : V x (whole + 1) places = numF z (whole + 1 + places) := numF_congr hD
  refine ⟨hd, ⟨by omega, fun j hj => ?_, fun h => ?_⟩, fun K hK => ?_⟩
  · have := hd.2.1 j hj; unfold Dg at this; omega
  · rw [hbt _ h, if_pos rfl]
  · rw [size_fr] at hfa hfb
    rw [V_more (D_zero places (by omega)) K hK, V_more (s := b) (D_zero places (by omega)) K hK, V_more (s := a) (D_zero places (by omega)) K hK, hV, hnum, Nat.add_mul]

/-! ### the digits that addPlain asks for -/

theorem ask_frac {s : ByteArray} {p whole : Nat} (hd : Digs s p) (hw : p ≤ whole) (k : Nat) : dAt (fr s p) (k : Int) = (padD s p (whole + 1) (whole + 1 + k) : Int) := by
  rw [dAt_fr hd]
  unfold padD
  rw [if_neg (by omega)]
  congr 2; omega

theorem ask_whole {s : ByteArray} {p whole : Nat} (hd : Digs s p) (hw : p ≤ whole) (k : Nat) (hk : k < whole) : dAt (s.extract 0 p) ((p : Int) - 1 - (k : Int)) = (padD s p (whole + 1) (whole - k) : Int) := by
  have hp := hd.1
  have hz : (s.extract 0 p).size = p := by rw [size_extract' s 0 p (Nat.zero_le _) hp]; omega
  unfold padD
  rcases Nat.lt_or_ge k p with h | h
  · have e : ((p : Int) - 1 - (k : Int)) = ((p - 1 - k : Nat) : Int) := by omega
    rw [e, dAt_in _ _ (by rw [hz]; omega), if_neg (by omega), bt_extract s 0 p _ (Nat.zero_le _) hp, if_pos (by omega), Nat.zero_add]
    unfold D
    have e2 : whole - k - (whole + 1 - p) = p - 1 - k := by omega
    rw [e2, if_pos (by omega)]
    have := hd.2.1 (p - 1 - k) (by omega)
    unfold Dg at this; omega
  · rw [dAt_out _ _ (.inl (by omega)), if_pos (by omega)]; rfl

end Go.Proofs.Qxb6000559a.Num
