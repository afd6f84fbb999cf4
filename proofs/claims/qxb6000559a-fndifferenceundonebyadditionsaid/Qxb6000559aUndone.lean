/-
  Seat b6000559a: FnDifferenceUndoneByAddition at every two strings.
-/
import Derived.Test.Qxb6000559aDiffW
import Derived.Test.Qxb6000559aAddW
namespace Go.Proofs.Qxb6000559a.Num
open Go.RowKit

/-- what holds of fine units holds of every unit that is fine enough for both -/
theorem le_of_fine {a b : ByteArray} {pa pb : Nat} (h : ∀ K, a.size ≤ K → b.size ≤ K → V b pb K ≤ V a pa K) : ∀ K, a.size ≤ K + pa + 1 → b.size ≤ K + pb + 1 → V b pb K ≤ V a pa K := by
  intro K h1 h2
  have h3 := h (K + pa + pb + 1) (by omega) (by omega)
  rw [V_more (s := b) (D_zero K (by omega)) _ (by omega : K ≤ K + pa + pb + 1), V_more (s := a) (D_zero K (by omega)) _ (by omega : K ≤ K + pa + pb + 1)] at h3
  exact Nat.le_of_mul_le_mul_right h3 (Nat.pow_pos (by omega))

theorem cmp_of_fine {a b : ByteArray} {pa pb : Nat} {e : Ending} (h : CmpPost a pa b pb e) (hv : ∃ K0, ∀ K, K0 ≤ K → V a pa K = V b pb K) : e = .returned (.int .i64 0) := by
  obtain ⟨K0, hv⟩ := hv
  rcases h with ⟨_, h⟩ | ⟨_, h⟩ | ⟨h, _⟩
  · have h1 := h (a.size + b.size + K0) (by omega) (by omega)
    rw [hv _ (by omega)] at h1; omega
  · have h1 := h (a.size + b.size + K0) (by omega) (by omega)
    rw [hv _ (by omega)] at h1; omega
  · exact h

theorem cmp_sides {a b : ByteArray} {pa pb : Nat} {e : Ending} (h : CmpPost a pa b pb e) :
    e = .returned (.int .i64 (-1)) ∨ (∃ r : Int, 0 ≤ r ∧ e = .returned (.int .i64 r) ∧ ∀ K, a.size ≤ K → b.size ≤ K → V b pb K ≤ V a pa K) := by
  rcases h with ⟨h, _⟩ | ⟨h, h2⟩ | ⟨h, h2⟩
  · exact .inl h
  · exact .inr ⟨1, by omega, h, fun K h3 h4 => Nat.le_of_lt (h2 K h4 h3)⟩
  · exact .inr ⟨0, by omega, h, fun K _ _ => by rw [h2 K]; omega⟩

set_option maxRecDepth 100000 in
set_option maxHeartbeats 2000000 in
theorem law3_main (a b : ByteArray) (pa pb : Nat) (w : World) (la : a.size ≤ 65536) (lb : b.size ≤ 65536) (a0 : 0 < pa) (ha : Digs a pa) (hb : Digs b pb) (qa : PointAt a pa) (qb : PointAt b pb) (hpa : Plain a) (hpb : Plain b) :
    Calls Try.prog 8 #[.string a, .string b] w fun e w' => e = .returned (.bool true) ∧ Below w.heap.size w w' := by
  have hz : decide (a.size + b.size ≤ 1048576) = true := by simp; omega
  go_enter Try.func8, Try.ntmps8
  go_wp2_with fail
  refine (zzUndone_any a b _ (by unfold maxLen; omega) (by unfold maxLen; omega)).mono ?_
  rintro e w' ⟨rfl, rfl⟩
  go_wp2_with fail
  refine (isPlain_any a _ (by omega)).mono ?_
  rintro e w' ⟨⟨x, rfl, hx⟩, rfl⟩
  obtain rfl : x = true := hx.2 hpa
  clear hx
  go_wp2_with fail
  refine (isPlain_any b _ (by omega)).mono ?_
  rintro e w' ⟨⟨x, rfl, hx⟩, rfl⟩
  obtain rfl : x = true := hx.2 hpb
  clear hx
  go_wp2_with fail
  refine (compare_at a b pa pb _ (by omega) (by omega) ha hb qa qb).mono ?_
  rintro e w1 ⟨hC, n1, rfl⟩
  rcases cmp_sides hC with rfl | ⟨r, hr, rfl, hle⟩
  · clear hC
    go_wp2_with fail
    go_ret
    exact ⟨rfl, below_drewN (Below.refl _ _) n1⟩
  · have HL := hide1 (le_of_fine hle)
    clear hC hle
    go_wp2_with fail
    refine (diff_any a b pa pb _ la lb a0 ha hb qa qb HL.out).mono ?_
    rintro e w2 ⟨⟨t, q, rfl, lt, hc, hv⟩, hB⟩
    have HB2 : Aside (Below w'.heap.size w' w2) := (below_drewN (Below.refl _ w') n1).trans hB
    have HV := hide1 hv
    have HC := hide1 hc
    clear hB hv hc HL
    go_wp2_with fail
    refine (isPlain_any t _ (by omega)).mono ?_
    rintro e w3 ⟨⟨x, rfl, hx⟩, rfl⟩
    obtain rfl : x = true := hx.2 HC.out.plain
    clear hx
    go_wp2_with fail
    refine (add_any t b q pb _ (by omega) (by omega) HC.out.digs hb HC.out.point qb).mono ?_
    rintro e w4 ⟨⟨x, r2, rfl, lx, dx, px, vx⟩, hB⟩
    have HB4 : Aside (Below w'.heap.size w' w4) := HB2.out.trans (hB.mono HB2.out.size)
    have HE : Hid (∃ K0, ∀ K, K0 ≤ K → V x r2 K = V a pa K) := ⟨a.size + b.size + t.size, fun K hK => by rw [vx K (by omega) (by omega)]; exact HV.out K (by omega) (by omega)⟩
    clear hB HB2 vx
    go_wp2_with fail
    refine (compare_at x a r2 pa _ lx (by omega) dx ha px qa).mono ?_
    rintro e w5 ⟨hC, n2, rfl⟩
    obtain rfl := cmp_of_fine hC HE.out
    clear hC
    go_wp2_with fail
    go_ret
    exact ⟨rfl, below_drewN HB4.out n2⟩

set_option maxHeartbeats 2000000 in
theorem law3 (a b : ByteArray) (ha : a.size ≤ maxLen) (hb : b.size ≤ maxLen) (w : World) :
    Calls Try.prog 8 #[.string a, .string b] w fun e w' => e = .returned (.bool true) ∧ Below w.heap.size w w' := by
  cases c1 : decide (a.size + b.size ≤ 1048576)
  · go_enter Try.func8, Try.ntmps8
    go_wp2_with fail
    refine (zzUndone_any a b _ ha hb).mono ?_
    rintro e w' ⟨rfl, rfl⟩
    go_wp2_with fail
    go_ret
    exact ⟨rfl, Below.refl _ _⟩
  by_cases c2 : 65536 < a.size
  · go_enter Try.func8, Try.ntmps8
    go_wp2_with fail
    refine (zzUndone_any a b _ ha hb).mono ?_
    rintro e w' ⟨rfl, rfl⟩
    go_wp2_with fail
    go_ret
    exact ⟨rfl, Below.refl _ _⟩
  by_cases c3 : 65536 < b.size
  · have c2' : decide ((65536 : Int) < (a.size : Int)) = false := by simp; omega
    go_enter Try.func8, Try.ntmps8
    go_wp2_with fail
    refine (zzUndone_any a b _ ha hb).mono ?_
    rintro e w' ⟨rfl, rfl⟩
    go_wp2_with fail
    go_ret
    exact ⟨rfl, Below.refl _ _⟩
  have c2' : decide ((65536 : Int) < (a.size : Int)) = false := by simp; omega
  have c3' : decide ((65536 : Int) < (b.size : Int)) = false := by simp; omega
  by_cases hpa : Plain a
  · by_cases hpb : Plain b
    · obtain ⟨pa, a0, da, qa, _⟩ := plain_point_at hpa
      obtain ⟨pb, _, db, qb, _⟩ := plain_point_at hpb
      exact law3_main a b pa pb w (by omega) (by omega) a0 da db qa qb hpa hpb
    · go_enter Try.func8, Try.ntmps8
      go_wp2_with fail
      refine (zzUndone_any a b _ ha hb).mono ?_
      rintro e w' ⟨rfl, rfl⟩
      go_wp2_with fail
      refine (isPlain_any a _ (by omega)).mono ?_
      rintro e w' ⟨⟨x, rfl, hx⟩, rfl⟩
      obtain rfl : x = true := hx.2 hpa
      clear hx
      go_wp2_with fail
      refine (isPlain_any b _ (by omega)).mono ?_
      rintro e w' ⟨⟨x, rfl, hx⟩, rfl⟩
      obtain rfl : x = false := by
        cases x
        · rfl
        · exact absurd (hx.1 rfl) hpb
      clear hx
      go_wp2_with fail
      go_ret
      exact ⟨rfl, Below.refl _ _⟩
  · go_enter Try.func8, Try.ntmps8
    go_wp2_with fail
    refine (zzUndone_any a b _ ha hb).mono ?_
    rintro e w' ⟨rfl, rfl⟩
    go_wp2_with fail
    refine (isPlain_any a _ (by omega)).mono ?_
    rintro e w' ⟨⟨x, rfl, hx⟩, rfl⟩
    obtain rfl : x = false := by
      cases x
      · rfl
      · exact absurd (hx.1 rfl) hpa
    clear hx
    go_wp2_with fail
    go_ret
    exact ⟨rfl, Below.refl _ _⟩

end Go.Proofs.Qxb6000559a.Num
