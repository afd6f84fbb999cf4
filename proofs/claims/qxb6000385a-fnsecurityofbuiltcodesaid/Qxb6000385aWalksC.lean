/-
  Seat b6000385a: zzBytes, splitSecurity, Security at a code that is built as the law builds it.
-/
import Derived.Test.Qxb6000385aWalksB
import Derived.Test.Qxb6000385aPlain
namespace Go.Proofs.Qxb6000385a.Sec
open Go.RowKit

set_option maxHeartbeats 400000 in
theorem zzBytes_any (p s m : ByteArray) (w : World) (hp : p.size ≤ maxLen) (hs : s.size ≤ maxLen) (hm : m.size ≤ maxLen) : Calls Try.prog 11 #[.string p, .string s, .string m] w fun e w' => e = .returned (.bool (decide (p.size + s.size + m.size ≤ 1048576))) ∧ w' = w := by
  unfold maxLen at hs hm hp
  go_enter Try.func11, Try.ntmps11
  go_wp2
  all_goals
    go_ret
    exact ⟨ret_bool (by rw [Bool.eq_iff_iff]; simp; omega), rfl⟩

def CutAt (g s m : ByteArray) : Prop := ∀ w : World, Calls Try.prog 23 #[.string g, .string ⟨#[32]⟩] w fun e w' => e = .returned (.tuple #[.string s, .string m, .bool true]) ∧ ∃ n, w' = w.drewN n
def LastAt (g : ByteArray) (n : Nat) : Prop := ∀ w : World, Calls Try.prog 16 #[.string g, .string ⟨#[46]⟩] w fun e w' => e = .returned (.int .i64 ((n : Int) - 1)) ∧ w' = w

set_option maxHeartbeats 400000 in
theorem split_built (g s m : ByteArray) (hc : CutAt g s m) (ls : s.size ≤ maxLen) (lm : m.size ≤ maxLen) (hs : full alnI s = true) (hm : full uppI m = true) (w : World) :
    Calls Try.prog 20 #[.string g] w fun e w' => e = .returned (.tuple #[.string s, .string m, .bool true]) ∧ ∃ n, w' = w.drewN n := by
  go_enter Try.func20, Try.ntmps20
  go_wp2_with (first | (go_at_call 23; refine (hc _).mono ?_; rintro e w' ⟨rfl, n, rfl⟩) | (go_at_call 24; refine (alphanumeric_any _ _ ls).mono ?_; rintro e w' ⟨rfl, rfl⟩) | (go_at_call 25; refine (upper_any _ _ lm).mono ?_; rintro e w' ⟨rfl, rfl⟩))
  go_ret3
  exact ⟨rfl, _, rfl⟩

set_option maxHeartbeats 400000 in
theorem security_built (code g s m : ByteArray) (n : Nat) (hl : LastAt code n) (hn : n ≤ code.size) (hsz : code.size ≤ 1048576) (hg : code.extract n code.size = g) (hc : CutAt g s m) (ls : s.size ≤ 1048576) (lm : m.size ≤ 1048576) (hs : full alnI s = true) (hm : full uppI m = true) (w : World) :
    Calls Try.prog 14 #[.string code] w fun e w' => e = .returned (.tuple #[.string (s ++ ⟨#[46]⟩ ++ m), .bool true]) ∧ ∃ n, w' = w.drewN n := by
  go_enter Try.func14, Try.ntmps14
  go_wp2_with (first | (go_at_call 16; refine (hl _).mono ?_; rintro e w' ⟨rfl, rfl⟩) | (go_at_call 20; refine (split_built _ s m hc (by unfold maxLen; omega) (by unfold maxLen; omega) hs hm _).mono ?_; rintro e w' ⟨rfl, k, rfl⟩))
  go_ret2
  exact ⟨rfl, _, rfl⟩

end Go.Proofs.Qxb6000385a.Sec
