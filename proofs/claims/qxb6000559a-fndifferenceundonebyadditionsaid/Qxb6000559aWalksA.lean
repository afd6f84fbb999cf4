/-
  Seat b6000559a: walks of the small functions: isDigitByte, isPlain, pointOf, fracOf, maxOf, digitAt, the bounds on lengths.
-/
import Derived.Test.Qxb6000559aProg
import Derived.Test.Qxb6000559aIdx
import Derived.WalkKit
import Derived.WalkSpells
import Derived.WalkLawsBesides
namespace Go.Proofs.Qxb6000559a.Num
open Go.RowKit

theorem ret_bool {a b : Bool} (h : a = b) : Ending.returned (.bool a) = .returned (.bool b) := by rw [h]
theorem ret_int {k : IntKind} {a b : Int} (h : a = b) : Ending.returned (.int k a) = .returned (.int k b) := by rw [h]

set_option maxHeartbeats 400000 in
theorem isDigit_any (c : Int) (w : World) : Calls Try.prog 30 #[.int .u8 c] w fun e w' => e = .returned (.bool (digI c)) ∧ w' = w := by
  go_enter Try.func30, Try.ntmps30
  go_wp2
  all_goals
    go_ret
    exact ⟨ret_bool (by rw [Bool.eq_iff_iff]; simp [digI]; omega), rfl⟩

/-- The call returned a bool that says whether P. -/
def Says (e : Ending) (P : Prop) : Prop := ∃ b, e = .returned (.bool b) ∧ (b = true ↔ P)
theorem says_yes {P : Prop} (h : P) : Says (.returned (.bool true)) P := ⟨true, rfl, by simp [h]⟩
theorem says_no {P : Prop} (h : ¬ P) : Says (.returned (.bool false)) P := ⟨false, rfl, by simp [h]⟩

set_option maxHeartbeats 1000000 in
theorem isPlain_any (s : ByteArray) (w : World) (hs : s.size ≤ 1048576) :
    Calls Try.prog 16 #[.string s] w fun e w' => Says e (Plain s) ∧ w' = w := by
  go_enter Try.func16, Try.ntmps16
  go_wp2
  go_loop [4] (fun i => ∃ k : Nat, k ≤ s.size ∧ i = .int .i64 k ∧ Hid (∀ j, j < k → Dg s j)) (fun i => s.size - (intOf i).toNat)
  case atStart => exact ⟨0, Nat.zero_le _, rfl, fun j hj => absurd hj (Nat.not_lt_zero _)⟩
  case round =>
    obtain ⟨k, hk, rfl, hh⟩ := hrel
    by_cases hlt : k < s.size
    · cases hd : digI (s[k].toNat : Int)
      · have HD : Hid (¬ Dg s k) := by show ¬ _; unfold Dg; rw [← bt_eq s k hlt]; exact digI_false hd
        by_cases hk0 : k = 0
        · have HF : Hid (¬ Plain s) := not_plain_first s (by omega) (by subst hk0; exact HD.out)
          subst hk0
          go_wp2_with (go_at_call 30; refine (isDigit_any _ _).mono ?_; rintro e w' ⟨rfl, rfl⟩)
          go_ret
          exact ⟨says_no HF.out, rfl⟩
        · have hk0' : ((k : Int) == 0) = false := by rw [beq_eq_false_iff_ne]; omega
          have hkn : ((k : Int) == (s.size : Int)) = false := by rw [beq_eq_false_iff_ne]; omega
          by_cases h46 : (s[k].toNat : Int) = 46
          · have h46' : ((s[k].toNat : Int) != 46) = false := by simp [h46]
            have H46 : Hid (bt s k = 46) := by show _ = _; rw [← bt_eq s k hlt]; exact h46
            clear h46
            by_cases hkn1 : k + 1 = s.size
            · have hkn1' : ((k : Int) + 1 == (s.size : Int)) = true := by rw [beq_iff_eq]; omega
              have HF : Hid (¬ Plain s) := not_plain_bare s k hkn1 HD.out
              clear hkn1
              go_wp2_with (go_at_call 30; refine (isDigit_any _ _).mono ?_; rintro e w' ⟨rfl, rfl⟩)
              go_ret
              exact ⟨says_no HF.out, rfl⟩
            · have hkn1' : ((k : Int) + 1 == (s.size : Int)) = false := by rw [beq_eq_false_iff_ne]; omega
              go_wp2_with (go_at_call 30; refine (isDigit_any _ _).mono ?_; rintro e w' ⟨rfl, rfl⟩)
              go_loop [5] (fun i => ∃ m : Nat, k + 1 ≤ m ∧ m ≤ s.size ∧ i = .int .i64 m ∧ Hid (∀ j, k + 1 ≤ j → j < m → Dg s j)) (fun i => s.size - (intOf i).toNat)
              case atStart => exact ⟨k + 1, Nat.le_refl _, by omega, by go_num, fun j h1 h2 => by omega⟩
              case round =>
                obtain ⟨m, hm1, hm2, rfl, hh2⟩ := hrel
                by_cases hltm : m < s.size
                · cases hdm : digI (s[m].toNat : Int)
                  · have HDm : Hid (¬ Dg s m) := by show ¬ _; unfold Dg; rw [← bt_eq s m hltm]; exact digI_false hdm
                    have HF : Hid (¬ Plain s) := not_plain_two s k m hlt hltm (by omega) HD.out HDm.out
                    have hmn : ((m : Int) == (s.size : Int)) = false := by rw [beq_eq_false_iff_ne]; omega
                    go_wp2_with (go_at_call 30; refine (isDigit_any _ _).mono ?_; rintro e w' ⟨rfl, rfl⟩)
                    go_ret
                    exact ⟨says_no HF.out, rfl⟩
                  · have HDm : Hid (Dg s m) := by show _ ∧ _; rw [← bt_eq s m hltm]; exact digI_true hdm
                    go_wp2_with (go_at_call 30; refine (isDigit_any _ _).mono ?_; rintro e w' ⟨rfl, rfl⟩)
                    go_round
                    case rel => exact ⟨m + 1, by omega, by omega, by go_num, upto2 hh2.out HDm.out⟩
                    case measure => simp [intOf]; omega
                · have HF : Hid (Plain s) := plain_point s k (by omega) (by omega) H46.out hh.out (fun j h1 h2 => hh2.out j h1 (by omega))
                  have hmn : ((m : Int) == (s.size : Int)) = true := by rw [beq_iff_eq]; omega
                  go_wp2
                  go_ret
                  exact ⟨says_yes HF.out, rfl⟩
          · have h46' : ((s[k].toNat : Int) != 46) = true := by simp [h46]
            have HF : Hid (¬ Plain s) := not_plain_odd s k hlt HD.out (by rw [← bt_eq s k hlt]; exact h46)
            clear h46
            go_wp2_with (go_at_call 30; refine (isDigit_any _ _).mono ?_; rintro e w' ⟨rfl, rfl⟩)
            go_ret
            exact ⟨says_no HF.out, rfl⟩
      · have HD : Hid (Dg s k) := by show _ ∧ _; rw [← bt_eq s k hlt]; exact digI_true hd
        go_wp2_with (go_at_call 30; refine (isDigit_any _ _).mono ?_; rintro e w' ⟨rfl, rfl⟩)
        go_round
        case rel => exact ⟨k + 1, by omega, by go_num, upto hh.out HD.out⟩
        case measure => simp [intOf]; omega
    · by_cases hk0 : k = 0
      · subst hk0
        have HF : Hid (¬ Plain s) := not_plain_zero s (by omega)
        go_wp2
        go_ret
        exact ⟨says_no HF.out, rfl⟩
      · have hk0' : ((k : Int) == 0) = false := by rw [beq_eq_false_iff_ne]; omega
        have hkn : ((k : Int) == (s.size : Int)) = true := by rw [beq_iff_eq]; omega
        have HF : Hid (Plain s) := plain_all s (by omega) (fun j hj => hh.out j (by omega))
        go_wp2
        go_ret
        exact ⟨says_yes HF.out, rfl⟩

end Go.Proofs.Qxb6000559a.Num
