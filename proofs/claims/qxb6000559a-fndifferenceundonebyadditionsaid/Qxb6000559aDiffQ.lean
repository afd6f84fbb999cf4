/-
  Seat b6000559a: what Difference writes, by places and by value; canonical texts. No Go in sight.
-/
import Derived.Test.Qxb6000559aDiffP
namespace Go.Proofs.Qxb6000559a.Num

/-- what aligned writes -/
def alF (W F : ByteArray) (whole : Nat) (j : Nat) : Int :=
  if whole + 1 ≤ j ∧ j < whole + 1 + F.size then bt F (j - (whole + 1)) else if j = whole then 46 else if whole - W.size ≤ j ∧ j < whole - W.size + W.size then bt W (j - (whole - W.size)) else 48

theorem bt_fr (s : ByteArray) (p j : Nat) (h : j < (fr s p).size) : bt (fr s p) j = bt s (p + 1 + j) := by
  rw [size_fr] at h
  unfold fr
  rw [if_pos (by omega), bt_extract s _ _ _ (by omega) (Nat.le_refl _), if_pos (by omega)]

theorem al_digit {s : ByteArray} {p whole places : Nat} (hd : Digs s p) (hw : p ≤ whole) (_hf : (fr s p).size ≤ places) (i : Nat) (_hi : i < whole + places) :
    alF (s.extract 0 p) (fr s p) whole (ix whole i) = 48 + (padD s p whole i : Int) := by
  have hp := hd.1
  have hz : (s.extract 0 p).size = p := by rw [size_extract' s 0 p (Nat.zero_le _) hp]; omega
  unfold alF ix padD D
  rw [hz]
  by_cases h1 : i < whole
  · rw [if_pos h1, if_neg (by omega), if_neg (by omega)]
    by_cases h2 : i < whole - p
    · rw [if_neg (by omega), if_pos h2]; rfl
    · rw [if_pos (by omega), if_neg h2, if_pos (by omega), bt_extract s 0 p _ (Nat.zero_le _) hp, if_pos (by omega), Nat.zero_add]
      have := hd.2.1 (i - (whole - p)) (by omega)
      unfold Dg at this
      omega
  · rw [if_neg h1]
    by_cases h2 : i + 1 < whole + 1 + (fr s p).size
    · rw [if_pos (by omega), if_neg (by omega), if_neg (by omega), bt_fr s p _ (by omega)]
      have e : p + 1 + (i + 1 - (whole + 1)) = i - (whole - p) + 1 := by omega
      rw [e]
      rw [size_fr] at h2
      have := hd.2.2 (i - (whole - p) + 1) (by omega) (by omega)
      unfold Dg at this
      omega
    · rw [if_neg (by omega), if_neg (by omega), if_neg (by omega), if_neg (by omega), if_neg (by omega)]
      rw [size_fr] at h2
      rw [bt_out s _ (by omega)]; rfl

/-- A canonical text with its point (or end) at q. -/
structure Canon (t : ByteArray) (q : Nat) : Prop where
  pos : 0 < q
  digs : Digs t q
  point : PointAt t q
  plain : Plain t
  room : q = t.size ∨ q + 1 < t.size
  head : 1 < q → bt t 0 ≠ 48
  last : q < t.size → bt t (t.size - 1) ≠ 48

theorem canon_of_trim {s : ByteArray} {p st en q : Nat} (hd : Digs s p) (hp : PointAt s p) (hq : p = st + q) (h : TrimIdx s p st en) : Canon (s.extract st en) q := by
  have e : p - st = q := by omega
  have h1 := h.1; have h2 := h.2.1; have h3 := h.2.2.1
  have hz := trim_size h
  have a := trim_point_at hp h
  have b := trim_digs hd h
  have d := trim_head h
  have f := trim_last h
  rw [e] at a b d f
  refine ⟨by omega, b, a, trim_plain hd hp h, ?_, d, f⟩
  rw [hz]
  rcases h.2.2.2.2.2.2 with he | ⟨he, _⟩ <;> omega

theorem canon_value {s : ByteArray} {p st en q : Nat} (hq : p = st + q) (h : TrimIdx s p st en) : VEq (s.extract st en) q s p := by
  have e : p - st = q := by omega
  have c := trim_value h
  rwa [e] at c

/-- The text that the subtraction leaves. -/
theorem diff_text {a b x : ByteArray} {pa pb whole places : Nat} (ha : Digs a pa) (hb : Digs b pb) (hwa : pa ≤ whole) (hwb : pb ≤ whole) (hfa : (fr a pa).size ≤ places) (hfb : (fr b pb).size ≤ places)
    (hx : x.size = whole + places + 1) (hz : ∀ j, j < x.size → bt x j = zz (alF (a.extract 0 pa) (fr a pa) whole) (alF (b.extract 0 pb) (fr b pb) whole) whole (whole + places + 1) j)
    (hle : V b pb places ≤ V a pa places) :
    Digs x whole ∧ PointAt x whole ∧ ∀ K, places ≤ K → V x whole K + V b pb K = V a pa K := by
  have hA := al_digit (places := places) ha hwa hfa
  have hB := al_digit (places := places) hb hwb hfb
  have dA : ∀ i, padD a pa whole i < 10 := padD_lt ha
  have dB : ∀ i, padD b pb whole i < 10 := padD_lt hb
  generalize alF (a.extract 0 pa) (fr a pa) whole = A at *
  generalize alF (b.extract 0 pb) (fr b pb) whole = B at *
  have hdz := dz_eq (n := whole + places + 1) rfl (by omega : whole ≤ whole + places) hA hB dA dB
  have hnum := sub_num (n := whole + places + 1) rfl (by omega : whole ≤ whole + places) hA hB dA dB (by rw [padD_num b pb whole places hwb, padD_num a pa whole places hwa]; exact hle)
  rw [padD_num b pb whole places hwb, padD_num a pa whole places hwa] at hnum
  have hpt : bt x whole = 46 := by rw [hz whole (by omega)]; unfold zz; rw [if_pos rfl]
  have hdg : ∀ i, i < whole + places → Dg x (ix whole i) := by
    intro i hi
    obtain ⟨_, h2, h3⟩ := hdz i hi
    have hl : ix whole i < x.size := by unfold ix; split <;> omega
    unfold Dg
    rw [hz _ hl, h3]; omega
  have hd : Digs x whole := by
    refine ⟨by omega, fun j hj => ?_, fun j h1 h2 => ?_⟩
    · have := hdg j (by omega)
      unfold ix at this; rwa [if_pos hj] at this
    · have := hdg (j - 1) (by omega)
      unfold ix at this
      rw [if_neg (by omega)] at this
      have e : j - 1 + 1 = j := by omega
      rwa [e] at this
  have hD : ∀ i, i < whole + places → D x whole i = dz A B whole (whole + places + 1) i := by
    intro i hi
    have hl : ix whole i < x.size := by unfold ix; split <;> omega
    unfold D dz
    have := hz _ hl
    unfold ix at this ⊢
    rw [this]
  have hV : V x whole places = numF (dz A B whole (whole + places + 1)) (whole + places) := numF_congr hD
  refine ⟨hd, ⟨by omega, fun j hj => ?_, fun _ => hpt⟩, fun K hK => ?_⟩
  · have := hd.2.1 j hj; unfold Dg at this; omega
  · rw [size_fr] at hfa hfb
    rw [V_more (D_zero places (by omega)) K hK, V_more (s := b) (D_zero places (by omega)) K hK, V_more (s := a) (D_zero places (by omega)) K hK, hV, ← hnum, Nat.add_mul]

/-! ### uniqueness -/

theorem numF_inj {f g : Nat → Nat} : ∀ {n : Nat}, (∀ i, f i < 10) → (∀ i, g i < 10) → numF f n = numF g n → ∀ i, i < n → f i = g i
  | 0, _, _, _, i, hi => absurd hi (Nat.not_lt_zero _)
  | n + 1, hf, hg, h, i, hi => by
    rw [numF, numF] at h
    have h1 := hf n
    have h2 := hg n
    rcases Nat.lt_or_ge i n with h3 | h3
    · exact numF_inj hf hg (by omega) i h3
    · have e : i = n := by omega
      subst e; omega

theorem canon_len {t u : ByteArray} {q r K : Nat} (ht : Canon t q) (hu : Canon u r) (hv : V t q K = V u r K) : q ≤ r := by
  rcases Nat.lt_or_ge r q with h | h
  · exfalso
    have h1 : V u r K < 10 ^ (r + K) := numF_lt fun i _ => D_lt hu.digs i
    obtain ⟨m, hm⟩ : ∃ m, q + K = m + 1 := ⟨q + K - 1, by omega⟩
    have hr := hu.pos
    have h2 : 10 ^ m ≤ V t q K := by
      unfold V
      rw [hm]
      apply numF_ge
      have h3 := ht.head (by omega)
      have h4 := ht.digs.2.1 0 ht.pos
      unfold Dg at h4
      unfold D
      rw [if_pos ht.pos]; omega
    have h3 : 10 ^ (r + K) ≤ 10 ^ m := Nat.pow_le_pow_right (by omega) (by omega)
    omega
  · exact h

theorem canon_frac {t u : ByteArray} {q : Nat} (ht : Canon t q) (hu : Canon u q) (hD : ∀ i, D t q i = D u q i) : t.size ≤ u.size := by
  rcases Nat.lt_or_ge u.size t.size with h | h
  · exfalso
    have hq := ht.digs.1
    have hq2 := hu.digs.1
    have h1 : q < t.size := by rcases ht.room with h' | h' <;> omega
    have h2 := ht.last h1
    have hr := ht.room
    have h3 := ht.digs.2.2 (t.size - 1) (by omega) (by omega)
    have h4 := hD (t.size - 2)
    unfold D at h4
    rw [if_neg (by omega)] at h4
    have e : t.size - 2 + 1 = t.size - 1 := by omega
    rw [e] at h4
    have hru := hu.room
    rw [bt_out u (t.size - 1) (by omega)] at h4
    unfold Dg at h3
    omega
  · exact h

theorem bytes_ext {t u : ByteArray} (hs : t.size = u.size) (h : ∀ j, j < t.size → bt t j = bt u j) : t = u := by
  have hl : ∀ x : ByteArray, x.data.toList.length = x.size := fun x => by simp
  have e : t.data.toList = u.data.toList := by
    apply List.ext_getElem?
    intro j
    rcases Nat.lt_or_ge j t.size with h1 | h1
    · have h2 := h j h1
      unfold bt at h2
      rw [List.getElem?_eq_getElem (by rw [hl]; exact h1), List.getElem?_eq_getElem (by rw [hl]; omega)] at h2 ⊢
      simp at h2 ⊢
      exact UInt8.toNat.inj (by omega)
    · rw [List.getElem?_eq_none (by rw [hl]; exact h1), List.getElem?_eq_none (by rw [hl]; omega)]
  cases t; cases u
  simp at e
  rw [e]

/-- Canonical texts of one value are one text. -/
theorem canon_unique {t u : ByteArray} {q r : Nat} (ht : Canon t q) (hu : Canon u r) (hv : ∃ K0, ∀ K, K0 ≤ K → V t q K = V u r K) : t = u := by
  obtain ⟨K0, hv⟩ := hv
  have e : q = r := by
    have h1 := canon_len ht hu (hv K0 (Nat.le_refl _))
    have h2 := canon_len hu ht (hv K0 (Nat.le_refl _)).symm
    omega
  subst e
  have hD : ∀ i, D t q i = D u q i := by
    intro i
    have h := hv (K0 + i + 1) (by omega)
    exact numF_inj (D_lt ht.digs) (D_lt hu.digs) h i (by omega)
  have h1 := canon_frac ht hu hD
  have h2 := canon_frac hu ht fun i => (hD i).symm
  apply bytes_ext (by omega)
  intro j hj
  rcases Nat.lt_trichotomy j q with h3 | h3 | h3
  · have h4 := hD j
    unfold D at h4
    rw [if_pos h3] at h4
    have h5 := ht.digs.2.1 j h3
    have h6 := hu.digs.2.1 j h3
    unfold Dg at h5 h6; omega
  · subst h3
    rw [ht.point.2.2 hj, hu.point.2.2 (by omega)]
  · have h4 := hD (j - 1)
    unfold D at h4
    rw [if_neg (by omega)] at h4
    have e : j - 1 + 1 = j := by omega
    rw [e] at h4
    have h5 := ht.digs.2.2 j h3 hj
    have h6 := hu.digs.2.2 j h3 (by omega)
    unfold Dg at h5 h6; omega

end Go.Proofs.Qxb6000559a.Num
