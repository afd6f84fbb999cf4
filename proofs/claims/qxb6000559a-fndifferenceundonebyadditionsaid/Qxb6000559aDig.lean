/-
  Seat b6000559a: numbers as functions from places to digits; the value of a text at K places behind the point. No Go in sight.
-/
import Derived.Test.Qxb6000559aIdx
namespace Go.Proofs.Qxb6000559a.Num

/-- The number that the first n digits write. -/
def numF (f : Nat → Nat) : Nat → Nat
  | 0 => 0
  | n + 1 => 10 * numF f n + f n

theorem numF_congr {f g : Nat → Nat} : ∀ {n : Nat}, (∀ i, i < n → f i = g i) → numF f n = numF g n
  | 0, _ => rfl
  | n + 1, h => by rw [numF, numF, numF_congr (fun i hi => h i (by omega)), h n (by omega)]

theorem numF_lt {f : Nat → Nat} : ∀ {n : Nat}, (∀ i, i < n → f i < 10) → numF f n < 10 ^ n
  | 0, _ => by simp [numF]
  | n + 1, h => by
    have h1 := numF_lt (f := f) (n := n) (fun i hi => h i (by omega))
    have h2 := h n (by omega)
    rw [numF, Nat.pow_succ]; omega

theorem numF_add (f : Nat → Nat) (m : Nat) : ∀ n : Nat, numF f (m + n) = numF f m * 10 ^ n + numF (fun i => f (m + i)) n
  | 0 => by simp [numF]
  | n + 1 => by
    rw [← Nat.add_assoc, numF, numF, numF_add f m n, Nat.pow_succ]
    rw [Nat.mul_add, Nat.add_assoc, ← Nat.mul_assoc, ← Nat.mul_assoc, Nat.mul_comm 10 (numF f m), Nat.mul_assoc, Nat.mul_comm 10 (10 ^ n), Nat.mul_assoc]

theorem numF_zero {f : Nat → Nat} : ∀ {n : Nat}, (∀ i, i < n → f i = 0) → numF f n = 0
  | 0, _ => rfl
  | n + 1, h => by rw [numF, numF_zero (fun i hi => h i (by omega)), h n (by omega)]

/-- leading zeros say nothing -/
theorem numF_skip {f : Nat → Nat} (m n : Nat) (h : ∀ i, i < m → f i = 0) : numF f (m + n) = numF (fun i => f (m + i)) n := by
  rw [numF_add, numF_zero h]; simp

theorem numF_ge {f : Nat → Nat} (n : Nat) (h : 1 ≤ f 0) : 10 ^ n ≤ numF f (n + 1) := by
  have := numF_add f 1 n
  rw [Nat.add_comm 1 n] at this
  rw [this]
  have e : numF f 1 = f 0 := by simp [numF]
  rw [e]
  have : 1 * 10 ^ n ≤ f 0 * 10 ^ n := Nat.mul_le_mul_right _ h
  omega

/-- the first place at which two numbers of one length part decides -/
theorem numF_lex {f g : Nat → Nat} (k n : Nat) (hk : k < n) (heq : ∀ i, i < k → f i = g i) (hlt : f k < g k) (hd : ∀ i, f i < 10) : numF f n < numF g n := by
  obtain ⟨m, rfl⟩ : ∃ m, n = k + 1 + m := ⟨n - (k + 1), by omega⟩
  rw [numF_add f (k + 1) m, numF_add g (k + 1) m, numF, numF, numF_congr heq]
  have h1 : numF (fun i => f (k + 1 + i)) m < 10 ^ m := numF_lt fun i _ => hd _
  have h2 : (10 * numF g k + f k + 1) * 10 ^ m ≤ (10 * numF g k + g k) * 10 ^ m := Nat.mul_le_mul_right _ (by omega)
  rw [Nat.add_mul (10 * numF g k + f k)] at h2
  omega

/-- The digit that stands at place i of s when the point at p is passed over; 0 beyond the end. -/
def D (s : ByteArray) (p i : Nat) : Nat := (bt s (if i < p then i else i + 1) - 48).toNat

/-- A text of digits with its point (or its end) at p. -/
def Digs (s : ByteArray) (p : Nat) : Prop := p ≤ s.size ∧ (∀ j, j < p → Dg s j) ∧ (∀ j, p < j → j < s.size → Dg s j)

theorem bt_out (s : ByteArray) (j : Nat) (h : s.size ≤ j) : bt s j = 0 := by
  unfold bt
  have h' : s.data.toList.length ≤ j := by simpa using h
  rw [List.getElem?_eq_none h']; rfl

theorem D_out (s : ByteArray) (p i : Nat) (hp : p ≤ i) (h : s.size ≤ i + 1) : D s p i = 0 := by
  unfold D; rw [if_neg (by omega), bt_out s _ h]; rfl

theorem D_lt {s : ByteArray} {p : Nat} (h : Digs s p) (i : Nat) : D s p i < 10 := by
  unfold D
  split
  · rename_i hi; have := h.2.1 i hi; unfold Dg at this; omega
  · rename_i hi
    rcases Nat.lt_or_ge (i + 1) s.size with h' | h'
    · have := h.2.2 (i + 1) (by omega) h'; unfold Dg at this; omega
    · rw [bt_out s _ h']; decide

/-- THE VALUE of the text, in units of 10 to the minus K. -/
def V (s : ByteArray) (p K : Nat) : Nat := numF (D s p) (p + K)

theorem V_strip {s : ByteArray} {p st : Nat} (hst : st ≤ p) (hz : ∀ j, j < st → bt s j = 48) (K : Nat) : V s p K = numF (fun i => D s p (st + i)) (p - st + K) := by
  unfold V
  have e : p + K = st + (p - st + K) := by omega
  rw [e]
  apply numF_skip
  intro i hi
  unfold D
  rw [if_pos (by omega), hz i hi]; rfl

/-- a is worth less than b, whatever the unit, as soon as it is fine enough. -/
def VLt (a : ByteArray) (pa : Nat) (b : ByteArray) (pb : Nat) : Prop := ∀ K, a.size ≤ K → b.size ≤ K → V a pa K < V b pb K
def VEq (a : ByteArray) (pa : Nat) (b : ByteArray) (pb : Nat) : Prop := ∀ K, V a pa K = V b pb K

theorem cmp_len {a b : ByteArray} {pa pb sa sb : Nat} (ha : Digs a pa) (hb : Digs b pb) (hsa : sa ≤ pa) (hsb : sb ≤ pb) (za : ∀ j, j < sa → bt a j = 48) (zb : ∀ j, j < sb → bt b j = 48)
    (xb : sb < pb → bt b sb ≠ 48) (h : pa - sa < pb - sb) : VLt a pa b pb := by
  intro K _ _
  rw [V_strip hsa za, V_strip hsb zb]
  have h1 : numF (fun i => D a pa (sa + i)) (pa - sa + K) < 10 ^ (pa - sa + K) := numF_lt fun i _ => D_lt ha _
  obtain ⟨n, hn⟩ : ∃ n, pb - sb + K = n + 1 := ⟨pb - sb + K - 1, by omega⟩
  have h2 : 10 ^ n ≤ numF (fun i => D b pb (sb + i)) (n + 1) := by
    apply numF_ge
    show 1 ≤ D b pb (sb + 0)
    have hx := xb (by omega)
    have hd := hb.2.1 sb (by omega)
    unfold D; unfold Dg at hd
    rw [if_pos (by omega)]
    simp only [Nat.add_zero]; omega
  rw [hn]
  have h3 : 10 ^ (pa - sa + K) ≤ 10 ^ n := Nat.pow_le_pow_right (by omega) (by omega)
  omega

/-- the digit of a stripped text -/
theorem D_whole (a : ByteArray) (pa sa j : Nat) (h : sa + j < pa) : D a pa (sa + j) = (bt a (sa + j) - 48).toNat := by
  unfold D; rw [if_pos h]

theorem cmp_whole {a b : ByteArray} {pa pb sa sb k : Nat} (ha : Digs a pa) (hb : Digs b pb) (hsa : sa ≤ pa) (hsb : sb ≤ pb) (za : ∀ j, j < sa → bt a j = 48) (zb : ∀ j, j < sb → bt b j = 48)
    (hl : pa - sa = pb - sb) (hk : k < pa - sa) (heq : ∀ j, j < k → bt a (sa + j) = bt b (sb + j)) (hlt : bt a (sa + k) < bt b (sb + k)) : VLt a pa b pb := by
  intro K _ _
  rw [V_strip hsa za, V_strip hsb zb, hl]
  apply numF_lex k _ (by omega)
  · intro i hi
    show D a pa (sa + i) = D b pb (sb + i)
    rw [D_whole _ _ _ _ (by omega), D_whole _ _ _ _ (by omega), heq i hi]
  · show D a pa (sa + k) < D b pb (sb + k)
    rw [D_whole _ _ _ _ (by omega), D_whole _ _ _ _ (by omega)]
    have h1 := ha.2.1 (sa + k) (by omega)
    have h2 := hb.2.1 (sb + k) (by omega)
    unfold Dg at h1 h2; omega
  · intro i; exact D_lt ha _

theorem size_extract' (s : ByteArray) (a b : Nat) (h1 : a ≤ b) (h2 : b ≤ s.size) : (s.extract a b).size = b - a := by
  rw [ByteArray.size_extract]; omega

theorem bt_extract (s : ByteArray) (a b j : Nat) (h1 : a ≤ b) (h2 : b ≤ s.size) : bt (s.extract a b) j = if j < b - a then bt s (a + j) else 0 := by
  split
  · rename_i h
    rw [← bt_eq s (a + j) (by omega), ← bt_eq (s.extract a b) j (by rw [size_extract' s a b h1 h2]; exact h)]
    congr 2
    exact ByteArray.getElem_extract _
  · rename_i h
    exact bt_out _ _ (by rw [size_extract' s a b h1 h2]; omega)

theorem size_fr (s : ByteArray) (p : Nat) : (fr s p).size = s.size - (p + 1) := by
  unfold fr
  split
  · rw [size_extract' _ _ _ (by omega) (Nat.le_refl _)]
  · simp; omega

theorem dAt_fr {s : ByteArray} {p : Nat} (h : Digs s p) (j : Nat) : dAt (fr s p) (j : Int) = (D s p (p + j) : Int) := by
  unfold D
  rw [if_neg (by omega)]
  rcases Nat.lt_or_ge j (fr s p).size with h' | h'
  · rw [dAt_in _ _ h']
    rw [size_fr] at h'
    have hp : p < s.size := by omega
    have hd := h.2.2 (p + j + 1) (by omega) (by omega)
    unfold Dg at hd
    have e : bt (fr s p) j = bt s (p + j + 1) := by
      unfold fr
      rw [if_pos hp, bt_extract s _ _ _ (by omega) (Nat.le_refl _), if_pos (by omega)]
      congr 1; omega
    rw [e]; omega
  · rw [dAt_out _ _ (.inr (by omega))]
    rw [size_fr] at h'
    rw [bt_out s _ (by have := h.1; omega)]; rfl

theorem D_eq_of {a b : ByteArray} {pa pb sa sb m : Nat} (ha : Digs a pa) (hb : Digs b pb) (hsa : sa ≤ pa) (hsb : sb ≤ pb) (hl : pa - sa = pb - sb)
    (heq : ∀ j, j < pa - sa → bt a (sa + j) = bt b (sb + j)) (hf : ∀ j, j < m → dAt (fr a pa) (j : Int) = dAt (fr b pb) (j : Int)) (i : Nat) (hi : i < pa - sa + m) : D a pa (sa + i) = D b pb (sb + i) := by
  rcases Nat.lt_or_ge i (pa - sa) with h' | h'
  · rw [D_whole _ _ _ _ (by omega), D_whole _ _ _ _ (by omega), heq i h']
  · have h1 := hf (i - (pa - sa)) (by omega)
    rw [dAt_fr ha, dAt_fr hb] at h1
    have e1 : pa + (i - (pa - sa)) = sa + i := by omega
    have e2 : pb + (i - (pa - sa)) = sb + i := by omega
    rw [e1, e2] at h1
    omega

theorem cmp_frac {a b : ByteArray} {pa pb sa sb k : Nat} (ha : Digs a pa) (hb : Digs b pb) (hsa : sa ≤ pa) (hsb : sb ≤ pb) (za : ∀ j, j < sa → bt a j = 48) (zb : ∀ j, j < sb → bt b j = 48)
    (hl : pa - sa = pb - sb) (heq : ∀ j, j < pa - sa → bt a (sa + j) = bt b (sb + j)) (hf : ∀ j, j < k → dAt (fr a pa) (j : Int) = dAt (fr b pb) (j : Int)) (hlt : dAt (fr a pa) (k : Int) < dAt (fr b pb) (k : Int))
    (hk : k < (fr a pa).size ∨ k < (fr b pb).size) : VLt a pa b pb := by
  intro K hK1 hK2
  rw [size_fr, size_fr] at hk
  rw [V_strip hsa za, V_strip hsb zb, hl]
  apply numF_lex (pb - sb + k) _ (by omega)
  · intro i hi; exact D_eq_of ha hb hsa hsb hl heq hf i (by omega)
  · rw [dAt_fr ha, dAt_fr hb] at hlt
    have e1 : sa + (pb - sb + k) = pa + k := by omega
    have e2 : sb + (pb - sb + k) = pb + k := by omega
    show D a pa (sa + (pb - sb + k)) < D b pb (sb + (pb - sb + k))
    rw [e1, e2]; omega
  · intro i; exact D_lt ha _

theorem cmp_same {a b : ByteArray} {pa pb sa sb m : Nat} (ha : Digs a pa) (hb : Digs b pb) (hsa : sa ≤ pa) (hsb : sb ≤ pb) (za : ∀ j, j < sa → bt a j = 48) (zb : ∀ j, j < sb → bt b j = 48)
    (hl : pa - sa = pb - sb) (heq : ∀ j, j < pa - sa → bt a (sa + j) = bt b (sb + j)) (hf : ∀ j, j < m → dAt (fr a pa) (j : Int) = dAt (fr b pb) (j : Int)) (hm1 : (fr a pa).size ≤ m) (hm2 : (fr b pb).size ≤ m) : VEq a pa b pb := by
  intro K
  rw [V_strip hsa za, V_strip hsb zb, hl]
  rw [size_fr] at hm1 hm2
  apply numF_congr
  intro i _
  show D a pa (sa + i) = D b pb (sb + i)
  rcases Nat.lt_or_ge i (pa - sa + m) with h' | h'
  · exact D_eq_of ha hb hsa hsb hl heq hf i h'
  · rw [D_out a pa _ (by omega) (by omega), D_out b pb _ (by omega) (by omega)]

end Go.Proofs.Qxb6000559a.Num
