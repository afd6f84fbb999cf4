/-
  Seat b6000385a: walks of the small functions on the road of FnSecurityOfBuiltCode.
-/
import Derived.Test.Qxb6000385aProg
import Derived.WalkKit
import Derived.WalkSpells
import Derived.WalkLawsBesides
namespace Go.Proofs.Qxb6000385a.Sec
open Go.RowKit

def digI (c : Int) : Bool := decide (48 ≤ c) && decide (c ≤ 57)
def uppI (c : Int) : Bool := decide (65 ≤ c) && decide (c ≤ 90)
def ltrI (c : Int) : Bool := uppI c || (decide (97 ≤ c) && decide (c ≤ 122))
def alnI (c : Int) : Bool := digI c || ltrI c

theorem ret_bool {a b : Bool} (h : a = b) : Ending.returned (.bool a) = .returned (.bool b) := by rw [h]

set_option maxHeartbeats 400000 in
theorem isDigit_any (c : Int) (w : World) : Calls Try.prog 17 #[.int .u8 c] w fun e w' => e = .returned (.bool (digI c)) ∧ w' = w := by
  go_enter Try.func17, Try.ntmps17
  go_wp2
  all_goals
    go_ret
    exact ⟨ret_bool (by rw [Bool.eq_iff_iff]; simp [digI]; omega), rfl⟩

set_option maxHeartbeats 400000 in
theorem isUpper_any (c : Int) (w : World) : Calls Try.prog 19 #[.int .u8 c] w fun e w' => e = .returned (.bool (uppI c)) ∧ w' = w := by
  go_enter Try.func19, Try.ntmps19
  go_wp2
  all_goals
    go_ret
    exact ⟨ret_bool (by rw [Bool.eq_iff_iff]; simp [uppI]; omega), rfl⟩

set_option maxHeartbeats 400000 in
theorem isLetter_any (c : Int) (w : World) : Calls Try.prog 18 #[.int .u8 c] w fun e w' => e = .returned (.bool (ltrI c)) ∧ w' = w := by
  go_enter Try.func18, Try.ntmps18
  go_wp2
  all_goals
    go_ret
    exact ⟨ret_bool (by rw [Bool.eq_iff_iff]; simp [ltrI, uppI]; omega), rfl⟩

set_option maxHeartbeats 400000 in
theorem upper1_any (c : Int) (w : World) : Calls Try.prog 30 #[.int .u8 c] w fun e w' => e = .returned (.bool (uppI c)) ∧ w' = w := by
  go_enter Try.func30, Try.ntmps30
  go_wp2
  all_goals
    go_ret
    exact ⟨ret_bool (by rw [Bool.eq_iff_iff]; simp [uppI]; omega), rfl⟩

set_option maxHeartbeats 400000 in
theorem alnum1_any (c : Int) (w : World) : Calls Try.prog 29 #[.int .u8 c] w fun e w' => e = .returned (.bool (alnI c)) ∧ w' = w := by
  go_enter Try.func29, Try.ntmps29
  go_wp2
  all_goals
    go_ret
    exact ⟨ret_bool (by rw [Bool.eq_iff_iff]; simp [alnI, digI, ltrI, uppI]; omega), rfl⟩

theorem take_snoc (s : ByteArray) (k : Nat) (h : k < s.size) : s.data.toList.take (k + 1) = s.data.toList.take k ++ [s[k]] := by
  rw [List.take_succ_eq_append_getElem (by simpa using h)]; rfl

def allP (p : Int → Bool) (s : ByteArray) (k : Nat) : Bool := (s.data.toList.take k).all (fun c => p (c.toNat : Int))
theorem allP_zero (p : Int → Bool) (s : ByteArray) : allP p s 0 = true := by simp [allP]
theorem allP_succ (p : Int → Bool) (s : ByteArray) (k : Nat) (h : k < s.size) : allP p s (k + 1) = (allP p s k && p (s[k].toNat : Int)) := by
  unfold allP; rw [take_snoc s k h, List.all_append]; simp
theorem allP_false (p : Int → Bool) (s : ByteArray) (k : Nat) (h : k < s.size) (hp : p (s[k].toNat : Int) = false) : allP p s s.size = false := by
  unfold allP
  rw [List.all_eq_false]
  refine ⟨s[k], ?_, by simp [hp]⟩
  rw [List.take_of_length_le (by simp)]
  have : s[k] = s.data.toList[k]'(by simpa using h) := rfl
  rw [this]; exact List.getElem_mem _

/-- not empty, and each byte passes -/
def full (p : Int → Bool) (s : ByteArray) : Bool := !(s.size == 0) && allP p s s.size
theorem full_false (p : Int → Bool) (s : ByteArray) (k : Nat) (h : k < s.size) (hp : p (s[k].toNat : Int) = false) : full p s = false := by
  simp [full, allP_false p s k h hp]
theorem full_true (p : Int → Bool) (s : ByteArray) (h : ¬ s.size = 0) (hp : allP p s s.size = true) : full p s = true := by
  simp [full, hp, h]

set_option maxHeartbeats 400000 in
theorem allAlnum_any (s : ByteArray) (w : World) (hs : s.size ≤ maxLen) : Calls Try.prog 12 #[.string s] w fun e w' => e = .returned (.bool (full alnI s)) ∧ w' = w := by
  unfold maxLen at hs
  by_cases h0 : s.size = 0
  · go_enter Try.func12, Try.ntmps12
    go_wp2
    go_ret
    exact ⟨ret_bool (by simp [full, h0]), rfl⟩
  · have hb : ((s.size : Int) == 0) = false := by rw [beq_eq_false_iff_ne]; omega
    go_enter Try.func12, Try.ntmps12
    go_wp2
    go_loop [3] (fun i => ∃ k : Nat, k ≤ s.size ∧ i = .int .i64 k ∧ Hid (allP alnI s k = true)) (fun i => s.size - (intOf i).toNat)
    case atStart => exact ⟨0, Nat.zero_le _, rfl, allP_zero _ _⟩
    case round =>
      obtain ⟨k, hk, rfl, hh⟩ := hrel
      by_cases hlt : k < s.size
      · cases hd : digI (s[k].toNat : Int)
        · cases hl : ltrI (s[k].toNat : Int)
          · have HF : Hid (full alnI s = false) := full_false _ _ k hlt (by simp [alnI, hd, hl])
            go_wp2_with (first | (go_at_call 17; refine (isDigit_any _ _).mono ?_; rintro e w' ⟨rfl, rfl⟩) | (go_at_call 18; refine (isLetter_any _ _).mono ?_; rintro e w' ⟨rfl, rfl⟩))
            go_ret
            exact ⟨ret_bool HF.out.symm, rfl⟩
          · have HF : Hid (allP alnI s (k + 1) = true) := by show _ = _; rw [allP_succ _ _ _ hlt, hh.out]; simp [alnI, hl]
            go_wp2_with (first | (go_at_call 17; refine (isDigit_any _ _).mono ?_; rintro e w' ⟨rfl, rfl⟩) | (go_at_call 18; refine (isLetter_any _ _).mono ?_; rintro e w' ⟨rfl, rfl⟩))
            go_round
            case rel => exact ⟨k + 1, by omega, by go_num, HF⟩
            case measure => simp [intOf]; omega
        · have HF : Hid (allP alnI s (k + 1) = true) := by show _ = _; rw [allP_succ _ _ _ hlt, hh.out]; simp [alnI, hd]
          go_wp2_with (first | (go_at_call 17; refine (isDigit_any _ _).mono ?_; rintro e w' ⟨rfl, rfl⟩) | (go_at_call 18; refine (isLetter_any _ _).mono ?_; rintro e w' ⟨rfl, rfl⟩))
          go_round
          case rel => exact ⟨k + 1, by omega, by go_num, HF⟩
          case measure => simp [intOf]; omega
      · have e : k = s.size := by omega
        have HF : Hid (full alnI s = true) := full_true _ _ h0 (by rw [← e]; exact hh.out)
        clear hh e
        go_wp2
        go_ret
        exact ⟨ret_bool HF.out.symm, rfl⟩

set_option maxHeartbeats 400000 in
theorem allUpper_any (s : ByteArray) (w : World) (hs : s.size ≤ maxLen) : Calls Try.prog 13 #[.string s] w fun e w' => e = .returned (.bool (full uppI s)) ∧ w' = w := by
  unfold maxLen at hs
  by_cases h0 : s.size = 0
  · go_enter Try.func13, Try.ntmps13
    go_wp2
    go_ret
    exact ⟨ret_bool (by simp [full, h0]), rfl⟩
  · have hb : ((s.size : Int) == 0) = false := by rw [beq_eq_false_iff_ne]; omega
    go_enter Try.func13, Try.ntmps13
    go_wp2
    go_loop [3] (fun i => ∃ k : Nat, k ≤ s.size ∧ i = .int .i64 k ∧ Hid (allP uppI s k = true)) (fun i => s.size - (intOf i).toNat)
    case atStart => exact ⟨0, Nat.zero_le _, rfl, allP_zero _ _⟩
    case round =>
      obtain ⟨k, hk, rfl, hh⟩ := hrel
      by_cases hlt : k < s.size
      · cases hd : uppI (s[k].toNat : Int)
        · have HF : Hid (full uppI s = false) := full_false _ _ k hlt hd
          go_wp2_with (first | (go_at_call 19; refine (isUpper_any _ _).mono ?_; rintro e w' ⟨rfl, rfl⟩))
          go_ret
          exact ⟨ret_bool HF.out.symm, rfl⟩
        · have HF : Hid (allP uppI s (k + 1) = true) := by show _ = _; rw [allP_succ _ _ _ hlt, hh.out, hd]; rfl
          go_wp2_with (first | (go_at_call 19; refine (isUpper_any _ _).mono ?_; rintro e w' ⟨rfl, rfl⟩))
          go_round
          case rel => exact ⟨k + 1, by omega, by go_num, HF⟩
          case measure => simp [intOf]; omega
      · have e : k = s.size := by omega
        have HF : Hid (full uppI s = true) := full_true _ _ h0 (by rw [← e]; exact hh.out)
        clear hh e
        go_wp2
        go_ret
        exact ⟨ret_bool HF.out.symm, rfl⟩

end Go.Proofs.Qxb6000385a.Sec
