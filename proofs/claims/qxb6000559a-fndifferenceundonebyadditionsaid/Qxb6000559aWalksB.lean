/-
  Seat b6000559a: walks: pointOf, fracOf, maxOf, digitAt, the bounds on lengths.
-/
import Derived.Test.Qxb6000559aWalksA
namespace Go.Proofs.Qxb6000559a.Num
open Go.RowKit

set_option maxHeartbeats 400000 in
theorem zzTrim_any (s : ByteArray) (w : World) (hs : s.size ≤ maxLen) : Calls Try.prog 18 #[.string s] w fun e w' => e = .returned (.bool (decide (s.size ≤ 1048576))) ∧ w' = w := by
  unfold maxLen at hs
  go_enter Try.func18, Try.ntmps18
  go_wp2
  all_goals
    go_ret
    exact ⟨ret_bool (by rw [Bool.eq_iff_iff]; simp; omega), rfl⟩

set_option maxHeartbeats 400000 in
theorem zzIdent_any (s : ByteArray) (w : World) (hs : s.size ≤ maxLen) : Calls Try.prog 26 #[.string s] w fun e w' => e = .returned (.bool (decide (s.size ≤ 1048576))) ∧ w' = w := by
  unfold maxLen at hs
  go_enter Try.func26, Try.ntmps26
  go_wp2
  all_goals
    go_ret
    exact ⟨ret_bool (by rw [Bool.eq_iff_iff]; simp; omega), rfl⟩

set_option maxHeartbeats 400000 in
theorem zzUndone_any (a b : ByteArray) (w : World) (ha : a.size ≤ maxLen) (hb : b.size ≤ maxLen) : Calls Try.prog 23 #[.string a, .string b] w fun e w' => e = .returned (.bool (decide (a.size + b.size ≤ 1048576))) ∧ w' = w := by
  unfold maxLen at ha hb
  go_enter Try.func23, Try.ntmps23
  go_wp2
  all_goals
    go_ret
    exact ⟨ret_bool (by rw [Bool.eq_iff_iff]; simp; omega), rfl⟩

set_option maxHeartbeats 400000 in
theorem maxOf_any (a b : Int) (w : World) : Calls Try.prog 33 #[.int .i64 a, .int .i64 b] w fun e w' => e = .returned (.int .i64 (max a b)) ∧ w' = w := by
  go_enter Try.func33, Try.ntmps33
  go_wp2
  all_goals
    go_ret
    exact ⟨ret_int (by omega), rfl⟩

set_option maxHeartbeats 400000 in
theorem digitAt_any (s : ByteArray) (k : Int) (w : World) (_hs : s.size ≤ 1048576) : Calls Try.prog 34 #[.string s, .int .i64 k] w fun e w' => e = .returned (.int .i64 (dAt s k)) ∧ w' = w := by
  by_cases h0 : k < 0
  · have HF : Hid (dAt s k = 0) := dAt_out s k (.inl h0)
    go_enter Try.func34, Try.ntmps34
    go_wp2
    go_ret
    exact ⟨ret_int HF.out.symm, rfl⟩
  · obtain ⟨n, rfl⟩ := Int.eq_ofNat_of_zero_le (by omega : 0 ≤ k)
    by_cases h1 : n < s.size
    · have HF : Hid (dAt s n = (s[n].toNat : Int) - 48) := by show _ = _; rw [dAt_in s n h1, bt_eq s n h1]
      have hb : s[n].toNat < 256 := UInt8.toNat_lt _
      go_enter Try.func34, Try.ntmps34
      go_wp2
      go_ret
      exact ⟨ret_int (by rw [HF.out]), rfl⟩
    · have HF : Hid (dAt s n = 0) := dAt_out s n (.inr (by omega))
      have hd : decide ((n : Int) < 0) = false := by simp
      go_enter Try.func34, Try.ntmps34
      go_wp2
      go_ret
      exact ⟨ret_int HF.out.symm, rfl⟩

set_option maxHeartbeats 400000 in
theorem fracOf_any (s : ByteArray) (p : Nat) (w : World) (hs : s.size ≤ 1048576) (_hp : p ≤ s.size) : Calls Try.prog 32 #[.string s, .int .i64 p] w fun e w' => e = .returned (.string (fr s p)) ∧ w' = w := by
  by_cases h : p < s.size
  · have HF : Hid (fr s p = s.extract (p + 1) s.size) := by show _ = _; unfold fr; rw [if_pos h]
    go_enter Try.func32, Try.ntmps32
    go_wp2
    go_ret
    exact ⟨by rw [HF.out]; rfl, rfl⟩
  · have HF : Hid (fr s p = ByteArray.empty) := by show _ = _; unfold fr; rw [if_neg h]
    go_enter Try.func32, Try.ntmps32
    go_wp2
    go_ret
    exact ⟨by rw [HF.out]; rfl, rfl⟩

set_option maxHeartbeats 400000 in
theorem pointOf_at (s : ByteArray) (p : Nat) (w : World) (hs : s.size ≤ 1048576) (hp : PointAt s p) : Calls Try.prog 19 #[.string s] w fun e w' => e = .returned (.int .i64 p) ∧ w' = w := by
  have hp1 := hp.1
  go_enter Try.func19, Try.ntmps19
  go_wp2
  go_loop [3] (fun i => ∃ k : Nat, k ≤ p ∧ i = .int .i64 k) (fun i => s.size - (intOf i).toNat)
  case atStart => exact ⟨0, Nat.zero_le _, rfl⟩
  case round =>
    obtain ⟨k, hk, rfl⟩ := hrel
    by_cases hlt : k < s.size
    · by_cases hkp : k = p
      · subst hkp
        have h46 : ((s[k].toNat : Int) == 46) = true := by rw [beq_iff_eq, bt_eq s k hlt]; exact hp.2.2 hlt
        go_wp2
        go_ret
        exact ⟨rfl, rfl⟩
      · have h46 : ((s[k].toNat : Int) == 46) = false := by rw [beq_eq_false_iff_ne, bt_eq s k hlt]; exact hp.2.1 k (by omega)
        go_wp2
        go_round
        case rel => exact ⟨k + 1, by omega, by go_num⟩
        case measure => simp [intOf]; omega
    · have e : p = s.size := by omega
      subst e
      go_wp2
      go_ret
      exact ⟨rfl, rfl⟩

end Go.Proofs.Qxb6000559a.Num
