/-
  Seat b6000559a: the plain law of trim. No Go in sight.
-/
import Derived.Test.Qxb6000559aDig
import Derived.Lib.Bytealg
namespace Go.Proofs.Qxb6000559a.Num
open Go

/-- A plain number has its point (or its end) somewhere. -/
theorem plain_point_at {s : ByteArray} (h : Plain s) : ∃ p, 0 < p ∧ Digs s p ∧ PointAt s p ∧ (p = s.size ∨ p + 1 < s.size) := by
  obtain ⟨h0, h1 | ⟨p, hp0, hp1, h46, hd⟩⟩ := h
  · refine ⟨s.size, h0, ⟨Nat.le_refl _, h1, fun j h2 h3 => by omega⟩, ⟨Nat.le_refl _, fun j hj => ?_, fun h => by omega⟩, .inl rfl⟩
    have := h1 j hj; unfold Dg at this; omega
  · refine ⟨p, hp0, ⟨by omega, fun j hj => hd j (by omega) (by omega), fun j h2 h3 => hd j h3 (by omega)⟩, ⟨by omega, fun j hj => ?_, fun _ => h46⟩, .inr hp1⟩
    have := hd j (by omega) (by omega); unfold Dg at this; omega

theorem indexByte_at (s : ByteArray) (p : Nat) (h : PointAt s p) : Lib.indexByte s.data.toList 46 = if p < s.size then (p : Int) else -1 := by
  obtain ⟨h1, h2, h3⟩ := h
  have key : ∀ (l : List UInt8) (q : Nat), q ≤ l.length → (∀ j, j < q → (l[j]?).getD 0 ≠ 46) → (q < l.length → (l[q]?).getD 0 = 46) → Lib.indexByte l 46 = if q < l.length then (q : Int) else -1 := by
    intro l
    induction l with
    | nil => intro q hq _ _; simp [Lib.indexByte]
    | cons c l ih =>
      intro q hq hn hat
      cases q with
      | zero =>
        have : c = 46 := by simpa using hat (by simp)
        subst this; simp [Lib.indexByte]
      | succ q =>
        have hc : (c == 46) = false := by rw [beq_eq_false_iff_ne]; simpa using hn 0 (by omega)
        have := ih q (by simpa using hq) (fun j hj => by simpa using hn (j + 1) (by omega)) (fun hj => by simpa using hat (by simp; omega))
        rw [Lib.indexByte, hc, this]
        by_cases hql : q < l.length
        · have e : ((q : Int) == -1) = false := by rw [beq_eq_false_iff_ne]; omega
          simp [hql, e]
        · simp [hql]
  have hl : s.size = s.data.toList.length := by simp only [Array.length_toList]; rfl
  rw [hl]
  apply key
  · omega
  · intro j hj e; apply h2 j hj; unfold bt; rw [e]; rfl
  · intro hj
    have := h3 (by omega)
    unfold bt at this
    apply UInt8.toNat.inj
    show _ = 46
    omega

section
variable {s : ByteArray} {p st en : Nat}

theorem trim_size (h : TrimIdx s p st en) : (s.extract st en).size = en - st := size_extract' _ _ _ (by have := h.1; have := h.2.1; omega) h.2.2.1

theorem trim_bt (h : TrimIdx s p st en) (j : Nat) : bt (s.extract st en) j = if j < en - st then bt s (st + j) else 0 := bt_extract _ _ _ _ (by have := h.1; have := h.2.1; omega) h.2.2.1

theorem trim_dg (h : TrimIdx s p st en) (j : Nat) (hj : j < en - st) (hs : Dg s (st + j)) : Dg (s.extract st en) j := by
  unfold Dg at hs ⊢; rw [trim_bt h, if_pos hj]; exact hs

theorem trim_digs (hd : Digs s p) (h : TrimIdx s p st en) : Digs (s.extract st en) (p - st) := by
  have h1 := h.1; have h2 := h.2.1; have h3 := h.2.2.1
  refine ⟨by rw [trim_size h]; omega, fun j hj => trim_dg h j (by omega) (hd.2.1 _ (by omega)), fun j h4 h5 => ?_⟩
  rw [trim_size h] at h5
  exact trim_dg h j h5 (hd.2.2 _ (by omega) (by omega))

theorem trim_point_at (hp : PointAt s p) (h : TrimIdx s p st en) : PointAt (s.extract st en) (p - st) := by
  have h1 := h.1; have h2 := h.2.1; have h3 := h.2.2.1
  refine ⟨by rw [trim_size h]; omega, fun j hj => ?_, fun h4 => ?_⟩
  · rw [trim_bt h, if_pos (by omega)]; exact hp.2.1 _ (by omega)
  · rw [trim_size h] at h4
    rw [trim_bt h, if_pos h4]
    have e : st + (p - st) = p := by omega
    rw [e]; exact hp.2.2 (by omega)

theorem trim_plain (hd : Digs s p) (hp : PointAt s p) (h : TrimIdx s p st en) : Plain (s.extract st en) := by
  have h1 := h.1; have h2 := h.2.1; have h3 := h.2.2.1
  have hdt := trim_digs hd h
  have hpt := trim_point_at hp h
  have hz := trim_size h
  rcases h.2.2.2.2.2.2 with he | ⟨he, _⟩
  · exact plain_all _ (by omega) (fun j hj => hdt.2.1 j (by omega))
  · exact plain_point _ (p - st) (by omega) (by omega) (hpt.2.2 (by omega)) hdt.2.1 (fun j h4 h5 => hdt.2.2 j (by omega) h5)

theorem trim_D (h : TrimIdx s p st en) (i : Nat) : D (s.extract st en) (p - st) i = D s p (st + i) := by
  have h1 := h.1; have h2 := h.2.1; have h3 := h.2.2.1
  unfold D
  rcases Nat.lt_or_ge i (p - st) with hi | hi
  · rw [if_pos hi, if_pos (by omega), trim_bt h, if_pos (by omega)]
  · rw [if_neg (by omega), if_neg (by omega), trim_bt h]
    split
    · congr 2
    · rename_i h4
      rcases Nat.lt_or_ge (st + i + 1) s.size with h5 | h5
      · rw [h.2.2.2.2.2.1 (st + i + 1) (by omega) (by omega) h5]; rfl
      · rw [bt_out s _ h5]

theorem trim_value (h : TrimIdx s p st en) : VEq (s.extract st en) (p - st) s p := by
  intro K
  rw [V_strip (Nat.le_of_lt h.1) h.2.2.2.1]
  unfold V
  exact numF_congr fun i _ => trim_D h i

theorem trim_head (h : TrimIdx s p st en) (h1 : 1 < p - st) : bt (s.extract st en) 0 ≠ 48 := by
  have h2 := h.2.1
  rw [trim_bt h, if_pos (by omega)]
  rcases h.2.2.2.2.1 with h5 | h5
  · omega
  · exact h5

theorem trim_last (h : TrimIdx s p st en) (h1 : p - st < (s.extract st en).size) : bt (s.extract st en) ((s.extract st en).size - 1) ≠ 48 := by
  have h2 := h.2.1; have h3 := h.1
  rw [trim_size h] at h1 ⊢
  rw [trim_bt h, if_pos (by omega)]
  rcases h.2.2.2.2.2.2 with he | ⟨he, h6⟩
  · omega
  · have e : st + (en - st - 1) = en - 1 := by omega
    rw [e]; exact h6

/-- how many zeros lead s -/
theorem trim_zeros (hp : PointAt s p) (h : TrimIdx s p st en) (z : Nat) (hz : z ≤ s.size) (h0 : ∀ j, j < z → bt s j = 48) (hx : z < s.size → bt s z ≠ 48) :
    if bt (s.extract st en) 0 = 48 then z = st + 1 else z = st := by
  have h1 := h.1; have h2 := h.2.1; have h3 := h.2.2.1
  have hps := hp.1
  have e0 : bt (s.extract st en) 0 = bt s st := by rw [trim_bt h, if_pos (by omega)]; rfl
  rw [e0]
  split
  · rename_i h4
    have h5 : st + 1 = p := by
      rcases h.2.2.2.2.1 with h5 | h5
      · exact h5
      · exact absurd h4 h5
    rcases Nat.lt_trichotomy z p with hl | hl | hl
    · exfalso
      apply hx (by omega)
      rcases Nat.lt_or_ge z st with h6 | h6
      · exact h.2.2.2.1 z h6
      · have e : z = st := by omega
        rw [e]; exact h4
    · omega
    · have h6 := h0 p hl
      have h7 := hp.2.2 (by omega)
      omega
  · rename_i h4
    rcases Nat.lt_trichotomy z st with hl | hl | hl
    · exact absurd (h.2.2.2.1 z hl) (hx (by omega))
    · exact hl
    · exact absurd (h0 st hl) h4

end

end Go.Proofs.Qxb6000559a.Num
