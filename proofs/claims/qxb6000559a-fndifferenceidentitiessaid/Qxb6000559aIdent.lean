/-
  Seat b6000559a: FnDifferenceIdentities at every string.
-/
import Derived.Test.Qxb6000559aDiffW
namespace Go.Proofs.Qxb6000559a.Num
open Go.RowKit

def zero1 : ByteArray := ⟨#[48]⟩
def zero2 : ByteArray := ⟨#[48, 46, 48]⟩

theorem z1_size : zero1.size = 1 := rfl
theorem z2_size : zero2.size = 3 := rfl
theorem z1_bt (j : Nat) : bt zero1 j = if j = 0 then 48 else 0 := by
  match j with
  | 0 => rfl
  | j + 1 => rw [if_neg (by omega)]; exact bt_out _ _ (by rw [z1_size]; omega)
theorem z2_bt (j : Nat) : bt zero2 j = if j = 0 then 48 else if j = 1 then 46 else if j = 2 then 48 else 0 := by
  match j with
  | 0 => rfl
  | 1 => rfl
  | 2 => rfl
  | j + 3 => rw [if_neg (by omega), if_neg (by omega), if_neg (by omega)]; exact bt_out _ _ (by rw [z2_size]; omega)

theorem z1_digs : Digs zero1 1 := by
  refine ⟨by rw [z1_size]; omega, fun j hj => ?_, fun j h1 h2 => by rw [z1_size] at h2; omega⟩
  unfold Dg; rw [z1_bt, if_pos (by omega)]; omega
theorem z2_digs : Digs zero2 1 := by
  refine ⟨by rw [z2_size]; omega, fun j hj => ?_, fun j h1 h2 => ?_⟩
  · unfold Dg; rw [z2_bt, if_pos (by omega)]; omega
  · rw [z2_size] at h2
    unfold Dg; rw [z2_bt, if_neg (by omega), if_neg (by omega), if_pos (by omega)]; omega
theorem z1_point : PointAt zero1 1 := by
  refine ⟨by rw [z1_size]; omega, fun j hj => ?_, fun h => by rw [z1_size] at h; omega⟩
  rw [z1_bt, if_pos (by omega)]; omega
theorem z2_point : PointAt zero2 1 := by
  refine ⟨by rw [z2_size]; omega, fun j hj => ?_, fun _ => ?_⟩
  · rw [z2_bt, if_pos (by omega)]; omega
  · rw [z2_bt]; rfl
theorem z1_D (i : Nat) : D zero1 1 i = 0 := by
  unfold D
  rw [z1_bt]
  split <;> split <;> omega
theorem z2_D (i : Nat) : D zero2 1 i = 0 := by
  unfold D
  rw [z2_bt]
  by_cases h : i < 1
  · rw [if_pos h, if_pos (by omega)]; rfl
  · rw [if_neg h, if_neg (by omega), if_neg (by omega)]
    split <;> rfl
theorem z1_V (K : Nat) : V zero1 1 K = 0 := numF_zero fun i _ => z1_D i
theorem z2_V (K : Nat) : V zero2 1 K = 0 := numF_zero fun i _ => z2_D i
theorem z1_canon : Canon zero1 1 := by
  refine ⟨by omega, z1_digs, z1_point, ?_, .inl rfl, fun h => by omega, fun h => by rw [z1_size] at h; omega⟩
  exact plain_all _ (by rw [z1_size]; omega) (fun j hj => z1_digs.2.1 j (by rw [z1_size] at hj; exact hj))

theorem diff_self {a : ByteArray} {pa : Nat} {e : Ending} (h : DiffPost a pa a pa e) : e = .returned (.string zero1) := by
  obtain ⟨t, q, rfl, _, hc, hv⟩ := h
  have : t = zero1 := canon_unique hc z1_canon ⟨a.size, fun K hK => by have := hv K hK hK; rw [z1_V]; omega⟩
  rw [this]

theorem diff_zero {a b t : ByteArray} {pa pb q : Nat} {e : Ending} (h : DiffPost a pa b pb e) (hb : ∀ K, V b pb K = 0) (ht : Canon t q) (hv : VEq t q a pa) : e = .returned (.string t) := by
  obtain ⟨t', q', rfl, _, hc, hv'⟩ := h
  have : t' = t := canon_unique hc ht ⟨a.size + b.size, fun K hK => by have h1 := hv' K (by omega) (by omega); rw [hb] at h1; rw [hv K]; omega⟩
  rw [this]

set_option maxRecDepth 100000 in
set_option maxHeartbeats 2000000 in
theorem law2_main (a : ByteArray) (p : Nat) (w : World) (ha : a.size ≤ 65536) (h0 : 0 < p) (hd : Digs a p) (hp : PointAt a p) (hpl : Plain a) :
    Calls Try.prog 9 #[.string a] w fun e w' => e = .returned (.bool true) ∧ Below w.heap.size w w' := by
  have hz : decide (a.size ≤ 1048576) = true := by simp; omega
  have hzl : (zero1.toList == [48]) = true := by rw [ByteArray.toList_eq]; rfl
  have D1 : Hid (∀ w : World, Calls Try.prog 24 #[.string a, .string ⟨#[48]⟩] w fun e w' => DiffPost a p zero1 1 e ∧ Below w.heap.size w w') := fun w => diff_any a zero1 p 1 w ha (by rw [z1_size]; omega) h0 hd z1_digs hp z1_point (fun K _ _ => by rw [z1_V]; omega)
  have D2 : Hid (∀ w : World, Calls Try.prog 24 #[.string a, .string ⟨#[48, 46, 48]⟩] w fun e w' => DiffPost a p zero2 1 e ∧ Below w.heap.size w w') := fun w => diff_any a zero2 p 1 w ha (by rw [z2_size]; omega) h0 hd z2_digs hp z2_point (fun K _ _ => by rw [z2_V]; omega)
  go_enter Try.func9, Try.ntmps9
  go_wp2_with fail
  refine (zzIdent_any a _ (by unfold maxLen; omega)).mono ?_
  rintro e w' ⟨rfl, rfl⟩
  go_wp2_with fail
  refine (isPlain_any a _ (by omega)).mono ?_
  rintro e w' ⟨⟨b, rfl, hb⟩, rfl⟩
  obtain rfl : b = true := hb.2 hpl
  clear hb
  go_wp2_with fail
  refine (Trim_at a p _ (by omega) h0 hp).mono ?_
  rintro e w1 ⟨⟨st, en, q, hq, ht, rfl⟩, rfl⟩
  have HC := hide1 (canon_of_trim hd hp hq ht)
  have HV := hide1 (canon_value hq ht)
  clear ht hq
  generalize a.extract st en = t at *
  go_wp2_with fail
  refine (diff_any a a p p _ ha ha h0 hd hd hp hp (fun K _ _ => Nat.le_refl _)).mono ?_
  rintro e w2 ⟨hD, hB2⟩
  obtain rfl := diff_self hD
  have HB2 : Aside _ := hB2
  clear hD hB2
  go_wp2_with fail
  refine (D1.out _).mono ?_
  rintro e w3 ⟨hD, hB3⟩
  obtain rfl := diff_zero hD z1_V HC.out HV.out
  have HB3 : Aside _ := HB2.out.trans (hB3.mono HB2.out.size)
  clear hD hB3 HB2
  go_wp2_with fail
  refine (D2.out _).mono ?_
  rintro e w4 ⟨hD, hB4⟩
  obtain rfl := diff_zero hD z2_V HC.out HV.out
  have HB4 : Aside _ := HB3.out.trans (hB4.mono HB3.out.size)
  clear hD hB4 HB3
  go_wp2_with fail
  go_ret
  exact ⟨rfl, HB4.out⟩

set_option maxHeartbeats 1000000 in
theorem law2 (s : ByteArray) (hs : s.size ≤ maxLen) (w : World) :
    Calls Try.prog 9 #[.string s] w fun e w' => e = .returned (.bool true) ∧ Below w.heap.size w w' := by
  by_cases c2 : 65536 < s.size
  · cases c1 : decide (s.size ≤ 1048576)
    · go_enter Try.func9, Try.ntmps9
      go_wp2_with fail
      refine (zzIdent_any s _ hs).mono ?_
      rintro e w' ⟨rfl, rfl⟩
      go_wp2_with fail
      go_ret
      exact ⟨rfl, Below.refl _ _⟩
    · go_enter Try.func9, Try.ntmps9
      go_wp2_with fail
      refine (zzIdent_any s _ hs).mono ?_
      rintro e w' ⟨rfl, rfl⟩
      go_wp2_with fail
      go_ret
      exact ⟨rfl, Below.refl _ _⟩
  · by_cases hp : Plain s
    · obtain ⟨p, h0, hd, hq, _⟩ := plain_point_at hp
      exact law2_main s p w (by omega) h0 hd hq hp
    · have c1 : decide (s.size ≤ 1048576) = true := by simp; omega
      go_enter Try.func9, Try.ntmps9
      go_wp2_with fail
      refine (zzIdent_any s _ hs).mono ?_
      rintro e w' ⟨rfl, rfl⟩
      go_wp2_with fail
      refine (isPlain_any s _ (by omega)).mono ?_
      rintro e w' ⟨⟨b, rfl, hb⟩, rfl⟩
      obtain rfl : b = false := by
        cases b
        · rfl
        · exact absurd (hb.1 rfl) hp
      clear hb
      go_wp2_with fail
      go_ret
      exact ⟨rfl, Below.refl _ _⟩

end Go.Proofs.Qxb6000559a.Num
