/-
  Seat b6000559a: bytes of a string by their places; what a plain number is, by places. No Go in sight.
-/
namespace Go.Proofs.Qxb6000559a.Num

/-- The byte at place j, as a number; 0 beyond the end. -/
def bt (s : ByteArray) (j : Nat) : Int := (((s.data.toList[j]?).getD 0).toNat : Int)

theorem bt_eq (s : ByteArray) (j : Nat) (h : j < s.size) : (s[j].toNat : Int) = bt s j := by
  unfold bt
  have h' : j < s.data.toList.length := by simpa using h
  rw [List.getElem?_eq_getElem h']
  rfl

theorem bt_nonneg (s : ByteArray) (j : Nat) : 0 ≤ bt s j := by unfold bt; omega
theorem bt_lt (s : ByteArray) (j : Nat) : bt s j < 256 := by
  unfold bt
  have := UInt8.toNat_lt ((s.data.toList[j]?).getD 0)
  omega

def digI (c : Int) : Bool := decide (48 ≤ c) && decide (c ≤ 57)
theorem digI_true {c : Int} (h : digI c = true) : 48 ≤ c ∧ c ≤ 57 := by simpa [digI] using h
theorem digI_false {c : Int} (h : digI c = false) : ¬ (48 ≤ c ∧ c ≤ 57) := by
  simp [digI] at h; omega

/-- A digit stands at place j. -/
def Dg (s : ByteArray) (j : Nat) : Prop := 48 ≤ bt s j ∧ bt s j ≤ 57

/-- A plain number, by places. -/
def Plain (s : ByteArray) : Prop :=
  0 < s.size ∧ ((∀ j, j < s.size → Dg s j) ∨ ∃ p, 0 < p ∧ p + 1 < s.size ∧ bt s p = 46 ∧ ∀ j, j < s.size → j ≠ p → Dg s j)

theorem not_plain_zero (s : ByteArray) (h : s.size = 0) : ¬ Plain s := fun hp => by have := hp.1; omega

theorem plain_all (s : ByteArray) (h0 : 0 < s.size) (h : ∀ j, j < s.size → Dg s j) : Plain s := ⟨h0, .inl h⟩

/-- no digit at the first place -/
theorem not_plain_first (s : ByteArray) (h : 0 < s.size) (hd : ¬ Dg s 0) : ¬ Plain s := by
  rintro ⟨_, h1 | ⟨p, hp, _, _, h1⟩⟩
  · exact hd (h1 0 h)
  · exact hd (h1 0 h (by omega))

/-- a byte that is neither digit nor point -/
theorem not_plain_odd (s : ByteArray) (k : Nat) (h : k < s.size) (hd : ¬ Dg s k) (h46 : bt s k ≠ 46) : ¬ Plain s := by
  rintro ⟨_, h1 | ⟨p, hp, _, h2, h1⟩⟩
  · exact hd (h1 k h)
  · by_cases e : k = p
    · subst e; exact h46 h2
    · exact hd (h1 k h e)

/-- two places without a digit -/
theorem not_plain_two (s : ByteArray) (k j : Nat) (h : k < s.size) (hj : j < s.size) (hne : k ≠ j) (hd : ¬ Dg s k) (hdj : ¬ Dg s j) : ¬ Plain s := by
  rintro ⟨_, h1 | ⟨p, hp, _, h2, h1⟩⟩
  · exact hd (h1 k h)
  · by_cases e : k = p
    · exact hdj (h1 j hj (by omega))
    · exact hd (h1 k h e)

/-- a bare point at the end -/
theorem not_plain_bare (s : ByteArray) (k : Nat) (h : k + 1 = s.size) (hd : ¬ Dg s k) : ¬ Plain s := by
  rintro ⟨_, h1 | ⟨p, hp, h3, h2, h1⟩⟩
  · exact hd (h1 k (by omega))
  · by_cases e : k = p
    · omega
    · exact hd (h1 k (by omega) e)

theorem plain_point (s : ByteArray) (k : Nat) (hk : 0 < k) (h : k + 1 < s.size) (h46 : bt s k = 46) (h1 : ∀ j, j < k → Dg s j) (h2 : ∀ j, k + 1 ≤ j → j < s.size → Dg s j) : Plain s :=
  ⟨by omega, .inr ⟨k, hk, h, h46, fun j hj hne => by
    rcases Nat.lt_or_ge j k with h' | h'
    · exact h1 j h'
    · exact h2 j (by omega) hj⟩⟩

/-- p is the place of the first point, or the length. -/
def PointAt (s : ByteArray) (p : Nat) : Prop := p ≤ s.size ∧ (∀ j, j < p → bt s j ≠ 46) ∧ (p < s.size → bt s p = 46)

/-- The digit at place k, 0 outside. -/
def dAt (s : ByteArray) (k : Int) : Int := if 0 ≤ k ∧ k < s.size then bt s k.toNat - 48 else 0
theorem dAt_in (s : ByteArray) (k : Nat) (h : k < s.size) : dAt s k = bt s k - 48 := by
  unfold dAt; rw [if_pos ⟨by omega, by omega⟩]; simp
theorem dAt_out (s : ByteArray) (k : Int) (h : k < 0 ∨ (s.size : Int) ≤ k) : dAt s k = 0 := by
  unfold dAt; rw [if_neg (by omega)]

/-- What stands behind the point at p. -/
def fr (s : ByteArray) (p : Nat) : ByteArray := if p < s.size then s.extract (p + 1) s.size else ByteArray.empty

/-- What trim finds, by places: it keeps the bytes from st to e. -/
def TrimIdx (s : ByteArray) (p st e : Nat) : Prop :=
  st < p ∧ p ≤ e ∧ e ≤ s.size ∧ (∀ j, j < st → bt s j = 48) ∧ (st + 1 = p ∨ bt s st ≠ 48) ∧ (∀ j, e ≤ j → j ≠ p → j < s.size → bt s j = 48) ∧ (e = p ∨ (p + 1 < e ∧ bt s (e - 1) ≠ 48))

theorem upto {P : Nat → Prop} {k : Nat} (h : ∀ j, j < k → P j) (hk : P k) : ∀ j, j < k + 1 → P j := fun j hj => by
  rcases Nat.lt_or_ge j k with h' | h'
  · exact h j h'
  · have e : j = k := by omega
    subst e; exact hk
theorem upto2 {P : Nat → Prop} {a k : Nat} (h : ∀ j, a ≤ j → j < k → P j) (hk : P k) : ∀ j, a ≤ j → j < k + 1 → P j := fun j ha hj => by
  rcases Nat.lt_or_ge j k with h' | h'
  · exact h j ha h'
  · have e : j = k := by omega
    subst e; exact hk

end Go.Proofs.Qxb6000559a.Num
