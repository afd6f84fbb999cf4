/-
  Seat b6000385a: 'every' at its two closures, alphanumeric, upper.
-/
import Derived.Test.Qxb6000385aWalksA
namespace Go.Proofs.Qxb6000385a.Sec
open Go.RowKit

theorem every_end (p : Int → Bool) (s : ByteArray) (h : allP p s s.size = true) : (!s.toList.isEmpty) = full p s := by
  have e : s.toList.isEmpty = (s.size == 0) := by
    rw [ByteArray.toList_eq, Bool.eq_iff_iff]
    have : s.size = s.data.toList.length := by simp only [Array.length_toList]; rfl
    rw [List.isEmpty_iff, beq_iff_eq, this, List.length_eq_zero_iff]
  rw [full, h, e]; simp

set_option maxHeartbeats 400000 in
theorem every_aln (s : ByteArray) (w : World) (hs : s.size ≤ maxLen) : Calls Try.prog 28 #[.string s, .func (Fn.func 29) #[] #[]] w fun e w' => e = .returned (.bool (full alnI s)) ∧ w' = w := by
  unfold maxLen at hs
  go_enter Try.func28, Try.ntmps28
  go_wp2
  go_loop [5] (fun i => ∃ k : Nat, k ≤ s.size ∧ i = .int .i64 k ∧ Hid (allP alnI s k = true)) (fun i => s.size - (intOf i).toNat)
  case atStart => exact ⟨0, Nat.zero_le _, rfl, allP_zero _ _⟩
  case round =>
    obtain ⟨k, hk, rfl, hh⟩ := hrel
    by_cases hlt : k < s.size
    · cases hd : alnI (s[k].toNat : Int)
      · have HF : Hid (full alnI s = false) := full_false _ _ k hlt hd
        go_wp2_with (first | (go_at_call 29; refine (alnum1_any _ _).mono ?_; rintro e w' ⟨rfl, rfl⟩))
        go_ret
        exact ⟨ret_bool HF.out.symm, rfl⟩
      · have HF : Hid (allP alnI s (k + 1) = true) := by show _ = _; rw [allP_succ _ _ _ hlt, hh.out, hd]; rfl
        go_wp2_with (first | (go_at_call 29; refine (alnum1_any _ _).mono ?_; rintro e w' ⟨rfl, rfl⟩))
        go_round
        case rel => exact ⟨k + 1, by omega, by go_num, HF⟩
        case measure => simp [intOf]; omega
    · have e : k = s.size := by omega
      have HA : Hid (allP alnI s s.size = true) := by show _ = _; rw [← e]; exact hh.out
      clear hh e
      go_wp2
      go_ret
      exact ⟨ret_bool (every_end alnI s HA.out), rfl⟩

set_option maxHeartbeats 400000 in
theorem every_upp (s : ByteArray) (w : World) (hs : s.size ≤ maxLen) : Calls Try.prog 28 #[.string s, .func (Fn.func 30) #[] #[]] w fun e w' => e = .returned (.bool (full uppI s)) ∧ w' = w := by
  unfold maxLen at hs
  go_enter Try.func28, Try.ntmps28
  go_wp2
  go_loop [5] (fun i => ∃ k : Nat, k ≤ s.size ∧ i = .int .i64 k ∧ Hid (allP uppI s k = true)) (fun i => s.size - (intOf i).toNat)
  case atStart => exact ⟨0, Nat.zero_le _, rfl, allP_zero _ _⟩
  case round =>
    obtain ⟨k, hk, rfl, hh⟩ := hrel
    by_cases hlt : k < s.size
    · cases hd : uppI (s[k].toNat : Int)
      · have HF : Hid (full uppI s = false) := full_false _ _ k hlt hd
        go_wp2_with (first | (go_at_call 30; refine (upper1_any _ _).mono ?_; rintro e w' ⟨rfl, rfl⟩))
        go_ret
        exact ⟨ret_bool HF.out.symm, rfl⟩
      · have HF : Hid (allP uppI s (k + 1) = true) := by show _ = _; rw [allP_succ _ _ _ hlt, hh.out, hd]; rfl
        go_wp2_with (first | (go_at_call 30; refine (upper1_any _ _).mono ?_; rintro e w' ⟨rfl, rfl⟩))
        go_round
        case rel => exact ⟨k + 1, by omega, by go_num, HF⟩
        case measure => simp [intOf]; omega
    · have e : k = s.size := by omega
      have HA : Hid (allP uppI s s.size = true) := by show _ = _; rw [← e]; exact hh.out
      clear hh e
      go_wp2
      go_ret
      exact ⟨ret_bool (every_end uppI s HA.out), rfl⟩

set_option maxHeartbeats 400000 in
theorem alphanumeric_any (s : ByteArray) (w : World) (hs : s.size ≤ maxLen) : Calls Try.prog 24 #[.string s] w fun e w' => e = .returned (.bool (full alnI s)) ∧ w' = w := by
  go_enter Try.func24, Try.ntmps24
  go_wp2_with (go_at_call 28; refine (every_aln _ _ hs).mono ?_; rintro e w' ⟨rfl, rfl⟩)
  go_ret
  exact ⟨rfl, rfl⟩

set_option maxHeartbeats 400000 in
theorem upper_any (s : ByteArray) (w : World) (hs : s.size ≤ maxLen) : Calls Try.prog 25 #[.string s] w fun e w' => e = .returned (.bool (full uppI s)) ∧ w' = w := by
  go_enter Try.func25, Try.ntmps25
  go_wp2_with (go_at_call 28; refine (every_upp _ _ hs).mono ?_; rintro e w' ⟨rfl, rfl⟩)
  go_ret
  exact ⟨rfl, rfl⟩

end Go.Proofs.Qxb6000385a.Sec
