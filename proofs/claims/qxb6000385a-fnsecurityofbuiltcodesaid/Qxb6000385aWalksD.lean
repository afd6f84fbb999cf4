/-
  Seat b6000385a: the walk of FnSecurityOfBuiltCode, its two calls of Security by hypotheses.
-/
import Derived.Test.Qxb6000385aWalksC
import Derived.RowKit3
namespace Go.Proofs.Qxb6000385a.Sec
open Go.RowKit

theorem grown_drewN {W w : World} (n : Nat) (h : Grown W w) : Grown W (w.drewN n) := by
  induction n with
  | zero => exact h
  | succ n ih => exact ih

def SecAt (code out : ByteArray) : Prop := ∀ w : World, Calls Try.prog 14 #[.string code] w fun e w' => e = .returned (.tuple #[.string out, .bool true]) ∧ ∃ n, w' = w.drewN n

set_option maxHeartbeats 800000 in
theorem law_main (p s m : ByteArray) (w : World) (hp : p.size ≤ maxLen) (hs : s.size ≤ maxLen) (hm : m.size ≤ maxLen) (lp : p.size ≤ 262144) (ls : s.size ≤ 262144) (lm : m.size ≤ 262144) (ha : full alnI s = true) (hu : full uppI m = true)
    (hsum : decide (p.size + s.size + m.size ≤ 1048576) = true)
    (G1 : SecAt (p ++ ⟨#[46]⟩ ++ s ++ ⟨#[32]⟩ ++ m) (s ++ ⟨#[46]⟩ ++ m)) (G2 : SecAt (s ++ ⟨#[32]⟩ ++ m) (s ++ ⟨#[46]⟩ ++ m)) :
    Calls Try.prog 5 #[.string p, .string s, .string m] w fun e w' => e = .returned (.bool true) ∧ Grown w w' := by
  go_enter Try.func5, Try.ntmps5
  go_wp2_with (first | (go_at_call 11; refine (zzBytes_any _ _ _ _ hp hs hm).mono ?_; rintro e w' ⟨rfl, rfl⟩) | (go_at_call 12; refine (allAlnum_any _ _ hs).mono ?_; rintro e w' ⟨rfl, rfl⟩) | (go_at_call 13; refine (allUpper_any _ _ hm).mono ?_; rintro e w' ⟨rfl, rfl⟩))
  refine (G1 _).mono ?_
  rintro e w1 ⟨rfl, n1, rfl⟩
  go_wp2_with fail
  refine (G2 _).mono ?_
  rintro e w2 ⟨rfl, n2, rfl⟩
  go_wp2
  go_ret
  exact ⟨rfl, grown_drewN _ (Grown.refl _)⟩

set_option maxHeartbeats 1600000 in
theorem law_walk (p s m : ByteArray) (w : World) (hp : p.size ≤ maxLen) (hs : s.size ≤ maxLen) (hm : m.size ≤ maxLen)
    (G : p.size ≤ 262144 → s.size ≤ 262144 → m.size ≤ 262144 → full alnI s = true → full uppI m = true → SecAt (p ++ ⟨#[46]⟩ ++ s ++ ⟨#[32]⟩ ++ m) (s ++ ⟨#[46]⟩ ++ m) ∧ SecAt (s ++ ⟨#[32]⟩ ++ m) (s ++ ⟨#[46]⟩ ++ m)) :
    Calls Try.prog 5 #[.string p, .string s, .string m] w fun e w' => e = .returned (.bool true) ∧ Grown w w' := by
  cases c1 : decide (p.size + s.size + m.size ≤ 1048576)
  · clear G
    go_enter Try.func5, Try.ntmps5
    go_wp2_with (first | (go_at_call 11; refine (zzBytes_any _ _ _ _ hp hs hm).mono ?_; rintro e w' ⟨rfl, rfl⟩) | (go_at_call 12; refine (allAlnum_any _ _ hs).mono ?_; rintro e w' ⟨rfl, rfl⟩) | (go_at_call 13; refine (allUpper_any _ _ hm).mono ?_; rintro e w' ⟨rfl, rfl⟩))
    go_ret
    exact ⟨rfl, Grown.refl _⟩
  by_cases c2 : 262144 < p.size
  · clear G
    go_enter Try.func5, Try.ntmps5
    go_wp2_with (first | (go_at_call 11; refine (zzBytes_any _ _ _ _ hp hs hm).mono ?_; rintro e w' ⟨rfl, rfl⟩) | (go_at_call 12; refine (allAlnum_any _ _ hs).mono ?_; rintro e w' ⟨rfl, rfl⟩) | (go_at_call 13; refine (allUpper_any _ _ hm).mono ?_; rintro e w' ⟨rfl, rfl⟩))
    go_ret
    exact ⟨rfl, Grown.refl _⟩
  by_cases c3 : 262144 < s.size
  · clear G
    go_enter Try.func5, Try.ntmps5
    go_wp2_with (first | (go_at_call 11; refine (zzBytes_any _ _ _ _ hp hs hm).mono ?_; rintro e w' ⟨rfl, rfl⟩) | (go_at_call 12; refine (allAlnum_any _ _ hs).mono ?_; rintro e w' ⟨rfl, rfl⟩) | (go_at_call 13; refine (allUpper_any _ _ hm).mono ?_; rintro e w' ⟨rfl, rfl⟩))
    go_ret
    exact ⟨rfl, Grown.refl _⟩
  by_cases c4 : 262144 < m.size
  · clear G
    go_enter Try.func5, Try.ntmps5
    go_wp2_with (first | (go_at_call 11; refine (zzBytes_any _ _ _ _ hp hs hm).mono ?_; rintro e w' ⟨rfl, rfl⟩) | (go_at_call 12; refine (allAlnum_any _ _ hs).mono ?_; rintro e w' ⟨rfl, rfl⟩) | (go_at_call 13; refine (allUpper_any _ _ hm).mono ?_; rintro e w' ⟨rfl, rfl⟩))
    go_ret
    exact ⟨rfl, Grown.refl _⟩
  cases c5 : full alnI s
  · clear G
    go_enter Try.func5, Try.ntmps5
    go_wp2_with (first | (go_at_call 11; refine (zzBytes_any _ _ _ _ hp hs hm).mono ?_; rintro e w' ⟨rfl, rfl⟩) | (go_at_call 12; refine (allAlnum_any _ _ hs).mono ?_; rintro e w' ⟨rfl, rfl⟩) | (go_at_call 13; refine (allUpper_any _ _ hm).mono ?_; rintro e w' ⟨rfl, rfl⟩))
    go_ret
    exact ⟨rfl, Grown.refl _⟩
  cases c6 : full uppI m
  · clear G
    go_enter Try.func5, Try.ntmps5
    go_wp2_with (first | (go_at_call 11; refine (zzBytes_any _ _ _ _ hp hs hm).mono ?_; rintro e w' ⟨rfl, rfl⟩) | (go_at_call 12; refine (allAlnum_any _ _ hs).mono ?_; rintro e w' ⟨rfl, rfl⟩) | (go_at_call 13; refine (allUpper_any _ _ hm).mono ?_; rintro e w' ⟨rfl, rfl⟩))
    go_ret
    exact ⟨rfl, Grown.refl _⟩
  obtain ⟨G1, G2⟩ := G (by omega) (by omega) (by omega) c5 c6
  exact law_main p s m w hp hs hm (by omega) (by omega) (by omega) c5 c6 c1 G1 G2

end Go.Proofs.Qxb6000385a.Sec
