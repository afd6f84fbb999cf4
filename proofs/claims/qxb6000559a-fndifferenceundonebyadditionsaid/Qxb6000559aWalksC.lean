/-
  Seat b6000559a: the walk of trim, strings.IndexByte by a hypothesis.
-/
import Derived.Test.Qxb6000559aWalksB
namespace Go.Proofs.Qxb6000559a.Num
open Go.RowKit

/-- trim's answer at s, whose point (or end) is p. -/
def TrimPost (s : ByteArray) (p : Nat) (e : Ending) : Prop :=
  ∃ st en, TrimIdx s p st en ∧ e = .returned (.tuple #[.string (s.extract st en), .int .i64 ((p : Int) - (st : Int))])

theorem trimPost_mk {s : ByteArray} {p st en : Nat} {x : Int} (h : TrimIdx s p st en) (hx : x = (p : Int) - (st : Int)) : TrimPost s p (.returned (.tuple #[.string (s.extract st en), .int .i64 x])) :=
  ⟨st, en, h, by rw [hx]⟩

theorem downto {s : ByteArray} {p en : Nat} (h : ∀ j, en ≤ j → j ≠ p → j < s.size → bt s j = 48) (hk : bt s (en - 1) = 48) : ∀ j, en - 1 ≤ j → j ≠ p → j < s.size → bt s j = 48 := fun j h1 h2 h3 => by
  rcases Nat.lt_or_ge j en with h' | h'
  · have e : j = en - 1 := by omega
    subst e; exact hk
  · exact h j h' h2 h3

def IdxAt (s : ByteArray) (i : Int) : Prop := ∀ w : World, Calls Try.prog 37 #[.string s, .int .u8 46] w fun e w' => e = .returned (.int .i64 i) ∧ w' = w

set_option maxHeartbeats 1000000 in
theorem trim_nopoint (s : ByteArray) (w : World) (hs : s.size ≤ 1048576) (h0 : 0 < s.size) (hi : IdxAt s (-1)) :
    Calls Try.prog 31 #[.string s] w fun e w' => TrimPost s s.size e ∧ w' = w := by
  go_enter Try.func31, Try.ntmps31
  go_wp2_with (go_at_call 37; refine (hi _).mono ?_; rintro e w' ⟨rfl, rfl⟩)
  go_loop [7] (fun i => ∃ st : Nat, st < s.size ∧ i = .int .i64 st ∧ Hid (∀ j, j < st → bt s j = 48)) (fun i => s.size - (intOf i).toNat)
  case atStart => exact ⟨0, h0, rfl, fun j hj => absurd hj (Nat.not_lt_zero _)⟩
  case round =>
    obtain ⟨st, hst, rfl, hh⟩ := hrel
    by_cases hlt : st + 1 < s.size
    · by_cases hc : (s[st].toNat : Int) = 48
      · have hc' : ((s[st].toNat : Int) == 48) = true := by rw [beq_iff_eq]; exact hc
        have HC : Hid (bt s st = 48) := by show _ = _; rw [← bt_eq s st (by omega)]; exact hc
        clear hc
        go_wp2
        go_round
        case rel => exact ⟨st + 1, by omega, by go_num, upto hh.out HC.out⟩
        case measure => simp [intOf]; omega
      · have hc' : ((s[st].toNat : Int) == 48) = false := by rw [beq_eq_false_iff_ne]; exact hc
        have HT : Hid (TrimIdx s s.size st s.size) := ⟨by omega, Nat.le_refl _, Nat.le_refl _, hh.out, .inr (by rw [← bt_eq s st (by omega)]; exact hc), fun j h1 _ h2 => by omega, .inl rfl⟩
        clear hc
        go_wp2
        go_ret2
        exact ⟨trimPost_mk HT.out (by rfl), rfl⟩
    · have HT : Hid (TrimIdx s s.size st s.size) := ⟨by omega, Nat.le_refl _, Nat.le_refl _, hh.out, .inl (by omega), fun j h1 _ h2 => by omega, .inl rfl⟩
      go_wp2
      go_ret2
      exact ⟨trimPost_mk HT.out (by rfl), rfl⟩

set_option maxHeartbeats 1000000 in
theorem trim_point (s : ByteArray) (p : Nat) (w : World) (hs : s.size ≤ 1048576) (h0 : 0 < p) (hp : p < s.size) (hi : IdxAt s (p : Int)) :
    Calls Try.prog 31 #[.string s] w fun e w' => TrimPost s p e ∧ w' = w := by
  go_enter Try.func31, Try.ntmps31
  go_wp2_with (go_at_call 37; refine (hi _).mono ?_; rintro e w' ⟨rfl, rfl⟩)
  go_loop [5] (fun x => ∃ en : Nat, p + 1 ≤ en ∧ en ≤ s.size ∧ x = .int .i64 en ∧ Hid (∀ j, en ≤ j → j ≠ p → j < s.size → bt s j = 48)) (fun i => (intOf i).toNat)
  case atStart => exact ⟨s.size, by omega, Nat.le_refl _, rfl, fun j h1 _ h2 => by omega⟩
  case round =>
    obtain ⟨en, he1, he2, rfl, hh⟩ := hrel
    by_cases hlt : p + 1 < en
    · by_cases hc : (s[en - 1].toNat : Int) = 48
      · have hc' : ((s[en - 1].toNat : Int) == 48) = true := by rw [beq_iff_eq]; exact hc
        have HC : Hid (bt s (en - 1) = 48) := by show _ = _; rw [← bt_eq s (en - 1) (by omega)]; exact hc
        clear hc
        go_wp2
        go_round
        case rel => exact ⟨en - 1, by omega, by omega, by congr 1; omega, downto hh.out HC.out⟩
        case measure => simp [intOf]; omega
      · have hc' : ((s[en - 1].toNat : Int) == 48) = false := by rw [beq_eq_false_iff_ne]; exact hc
        have HE : Hid (p ≤ en ∧ en ≤ s.size ∧ (∀ j, en ≤ j → j ≠ p → j < s.size → bt s j = 48) ∧ (en = p ∨ (p + 1 < en ∧ bt s (en - 1) ≠ 48))) := ⟨by omega, he2, hh.out, .inr ⟨hlt, by rw [← bt_eq s (en - 1) (by omega)]; exact hc⟩⟩
        have hne : ((en : Int) == (p : Int) + 1) = false := by rw [beq_eq_false_iff_ne]; omega
        clear hc
        go_wp2
        go_loop [7] (fun i => ∃ st : Nat, st < p ∧ i = .int .i64 st ∧ Hid (∀ j, j < st → bt s j = 48)) (fun i => p - (intOf i).toNat)
        case atStart => exact ⟨0, h0, rfl, fun j hj => absurd hj (Nat.not_lt_zero _)⟩
        case round =>
          obtain ⟨st, hst, rfl, hz⟩ := hrel
          by_cases hlt2 : st + 1 < p
          · by_cases hc2 : (s[st].toNat : Int) = 48
            · have hc2' : ((s[st].toNat : Int) == 48) = true := by rw [beq_iff_eq]; exact hc2
              have HC : Hid (bt s st = 48) := by show _ = _; rw [← bt_eq s st (by omega)]; exact hc2
              clear hc2
              go_wp2
              go_round
              case rel => exact ⟨st + 1, by omega, by go_num, upto hz.out HC.out⟩
              case measure => simp [intOf]; omega
            · have hc2' : ((s[st].toNat : Int) == 48) = false := by rw [beq_eq_false_iff_ne]; exact hc2
              have HT : Hid (TrimIdx s p st en) := ⟨by omega, HE.out.1, HE.out.2.1, hz.out, .inr (by rw [← bt_eq s st (by omega)]; exact hc2), HE.out.2.2.1, HE.out.2.2.2⟩
              clear hc2
              go_wp2
              go_ret2
              exact ⟨trimPost_mk HT.out (by rfl), rfl⟩
          · have HT : Hid (TrimIdx s p st en) := ⟨by omega, HE.out.1, HE.out.2.1, hz.out, .inl (by omega), HE.out.2.2.1, HE.out.2.2.2⟩
            go_wp2
            go_ret2
            exact ⟨trimPost_mk HT.out (by rfl), rfl⟩
    · have HE : Hid (p ≤ p ∧ p ≤ s.size ∧ (∀ j, p ≤ j → j ≠ p → j < s.size → bt s j = 48) ∧ (p = p ∨ (p + 1 < p ∧ bt s (p - 1) ≠ 48))) := ⟨Nat.le_refl _, by omega, fun j h1 h2 h3 => hh.out j (by omega) h2 h3, .inl rfl⟩
      have hne : ((en : Int) == (p : Int) + 1) = true := by rw [beq_iff_eq]; omega
      go_wp2
      go_loop [7] (fun i => ∃ st : Nat, st < p ∧ i = .int .i64 st ∧ Hid (∀ j, j < st → bt s j = 48)) (fun i => p - (intOf i).toNat)
      case atStart => exact ⟨0, h0, rfl, fun j hj => absurd hj (Nat.not_lt_zero _)⟩
      case round =>
        obtain ⟨st, hst, rfl, hz⟩ := hrel
        by_cases hlt2 : st + 1 < p
        · by_cases hc2 : (s[st].toNat : Int) = 48
          · have hc2' : ((s[st].toNat : Int) == 48) = true := by rw [beq_iff_eq]; exact hc2
            have HC : Hid (bt s st = 48) := by show _ = _; rw [← bt_eq s st (by omega)]; exact hc2
            clear hc2
            go_wp2
            go_round
            case rel => exact ⟨st + 1, by omega, by go_num, upto hz.out HC.out⟩
            case measure => simp [intOf]; omega
          · have hc2' : ((s[st].toNat : Int) == 48) = false := by rw [beq_eq_false_iff_ne]; exact hc2
            have HT : Hid (TrimIdx s p st p) := ⟨by omega, HE.out.1, HE.out.2.1, hz.out, .inr (by rw [← bt_eq s st (by omega)]; exact hc2), HE.out.2.2.1, .inl rfl⟩
            clear hc2
            go_wp2
            go_ret2
            exact ⟨trimPost_mk HT.out (by rfl), rfl⟩
        · have HT : Hid (TrimIdx s p st p) := ⟨by omega, HE.out.1, HE.out.2.1, hz.out, .inl (by omega), HE.out.2.2.1, .inl rfl⟩
          go_wp2
          go_ret2
          exact ⟨trimPost_mk HT.out (by rfl), rfl⟩

end Go.Proofs.Qxb6000559a.Num
