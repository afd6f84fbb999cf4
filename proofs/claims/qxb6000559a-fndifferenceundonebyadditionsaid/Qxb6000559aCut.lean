/-
  Seat b6000559a: strings.Cut at a point; Trim.
-/
import Derived.Test.Qxb6000559aWalksE
namespace Go.Proofs.Qxb6000559a.Num
open Go.RowKit

theorem extract_all (g : ByteArray) : g.extract 0 g.size = g := by
  have h : (g.extract 0 g.size).data.toList = g.data.toList := by
    rw [Lib.extract_data, List.take_of_length_le]
    · simp
    · rw [Lib.size_eq]; simp
  rw [← Lib.mk_data (g.extract 0 g.size), h, Lib.mk_data]

set_option maxHeartbeats 1000000 in
theorem slcut_at (s : ByteArray) (p : Nat) (hs : s.size ≤ 1048576) (hp : PointAt s p) (w : World) :
    Calls Try.prog 38 #[.string s, .string ⟨#[46]⟩] w fun e w' => e = .returned (.tuple #[.string (s.extract 0 p), .string (fr s p), .bool (decide (p < s.size))]) ∧ ∃ n, w' = w.drewN n := by
  have hi := indexByte_at s p hp
  by_cases h : p < s.size
  · rw [if_pos h] at hi
    have HI : Hid _ := hi
    have HF : Hid (fr s p = s.extract (p + 1) s.size) := by show _ = _; unfold fr; rw [if_pos h]
    have hd : decide (p < s.size) = true := by simpa using h
    have c2 : (p : Int) ≤ s.size := by omega
    have c4 : (p : Int) + 1 ≤ s.size := by omega
    have c5 : (s.size : Int) ≤ 1048576 := by omega
    clear hi
    go_enter Try.func38, Try.ntmps38
    go_wp2_with (go_at_call 41; refine (Try.stringslite_Index_one _ 46 _).mono ?_; rintro e w' ⟨rfl, rfl⟩; rw [HI.out])
    go_quiet (fail)
    go_wp2
    go_ret3
    exact ⟨by rw [HF.out, hd]; rfl, _, rfl⟩
  · rw [if_neg h] at hi
    have HI : Hid _ := hi
    have hd : decide (p < s.size) = false := by simpa using h
    have e : p = s.size := by have := hp.1; omega
    have HF : Hid (fr s p = ByteArray.empty) := by show _ = _; unfold fr; rw [if_neg h]
    have HE : Hid (s.extract 0 p = s) := by show _ = _; rw [e]; exact extract_all s
    clear hi e
    go_enter Try.func38, Try.ntmps38
    go_wp2_with (go_at_call 41; refine (Try.stringslite_Index_one _ 46 _).mono ?_; rintro e w' ⟨rfl, rfl⟩; rw [HI.out])
    go_ret3
    exact ⟨by rw [HF.out, HE.out, hd]; rfl, 0, rfl⟩

set_option maxHeartbeats 1000000 in
theorem cut_at (s : ByteArray) (p : Nat) (hs : s.size ≤ 1048576) (hp : PointAt s p) (w : World) :
    Calls Try.prog 35 #[.string s, .string ⟨#[46]⟩] w fun e w' => e = .returned (.tuple #[.string (s.extract 0 p), .string (fr s p), .bool (decide (p < s.size))]) ∧ ∃ n, w' = w.drewN n := by
  have HH := hide1 (slcut_at s p hs hp)
  generalize s.extract 0 p = X at *
  generalize fr s p = Y at *
  generalize decide (p < s.size) = Z at *
  go_enter Try.func35, Try.ntmps35
  go_wp2_with (go_at_call 38; refine (HH.out _).mono ?_; rintro e w' ⟨rfl, n, rfl⟩)
  go_ret3
  exact ⟨rfl, _, rfl⟩

/-- Trim's answer. -/
def TrimStr (s : ByteArray) (p : Nat) (e : Ending) : Prop := ∃ st en q : Nat, p = st + q ∧ TrimIdx s p st en ∧ e = .returned (.string (s.extract st en))

theorem Trim_at (s : ByteArray) (p : Nat) (w : World) (hs : s.size ≤ 1048576) (h0 : 0 < p) (hp : PointAt s p) :
    Calls Try.prog 27 #[.string s] w fun e w' => TrimStr s p e ∧ w' = w := by
  go_enter Try.func27, Try.ntmps27
  go_wp2_with fail
  refine (trim_at s p _ hs h0 hp).mono ?_
  rintro e w' ⟨hT, rfl⟩
  obtain ⟨st, en, q, hq, ht, rfl⟩ := trimPost_q hT
  have HT : Hid _ := ht
  have HQ : Hid _ := hq
  clear ht hq hT
  go_wp2_with fail
  go_ret
  exact ⟨⟨st, en, q, HQ.out, HT.out, rfl⟩, rfl⟩

end Go.Proofs.Qxb6000559a.Num
