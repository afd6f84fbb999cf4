/-
  Seat b6000559a: FnTrimCanonicalEqualValuePartOfInput at every string.
-/
import Derived.Test.Qxb6000559aWalksE
namespace Go.Proofs.Qxb6000559a.Num
open Go.RowKit

set_option maxHeartbeats 1000000 in
theorem law1 (s : ByteArray) (hs : s.size ≤ maxLen) (w : World) :
    Calls Try.prog 6 #[.string s] w fun e w' => e = .returned (.bool true) ∧ Grown w w' := by
  by_cases c2 : 65536 < s.size
  · cases c1 : decide (s.size ≤ 1048576)
    · go_enter Try.func6, Try.ntmps6
      go_wp2_with fail
      refine (zzTrim_any s _ hs).mono ?_
      rintro e w' ⟨rfl, rfl⟩
      go_wp2_with fail
      go_ret
      exact ⟨rfl, Grown.refl _⟩
    · go_enter Try.func6, Try.ntmps6
      go_wp2_with fail
      refine (zzTrim_any s _ hs).mono ?_
      rintro e w' ⟨rfl, rfl⟩
      go_wp2_with fail
      go_ret
      exact ⟨rfl, Grown.refl _⟩
  · by_cases hp : Plain s
    · obtain ⟨p, h0, hd, hq, _⟩ := plain_point_at hp
      exact law1_main s p w (by omega) h0 hd hq hp
    · have c1 : decide (s.size ≤ 1048576) = true := by simp; omega
      go_enter Try.func6, Try.ntmps6
      go_wp2_with fail
      refine (zzTrim_any s _ hs).mono ?_
      rintro e w' ⟨rfl, rfl⟩
      go_wp2_with fail
      refine (isPlain_any s _ (by omega)).mono ?_
      rintro e w' ⟨⟨b, rfl, hb⟩, rfl⟩
      obtain rfl : b = false := by
        cases b
        · rfl
        · exact absurd (hb.1 rfl) hp
      clear hb
      go_wp2_with fail
      go_ret
      exact ⟨rfl, Grown.refl _⟩

end Go.Proofs.Qxb6000559a.Num
