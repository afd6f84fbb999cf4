/-
  Seat b6000559a: the walk of compareValues.
-/
import Derived.Test.Qxb6000559aWalksB
import Derived.Test.Qxb6000559aDig
import Derived.Deep.QuietTactic
import Derived.BigQuiet
import Derived.Deep.Draws
import Derived.Deep.DeepCutAuto
import Derived.Deep.CutBlock
namespace Go.Proofs.Qxb6000559a.Num
open Go.RowKit

/-- compareValues' answer. -/
def CmpPost (a : ByteArray) (pa : Nat) (b : ByteArray) (pb : Nat) (e : Ending) : Prop :=
  (e = .returned (.int .i64 (-1)) ∧ VLt a pa b pb) ∨ (e = .returned (.int .i64 1) ∧ VLt b pb a pa) ∨ (e = .returned (.int .i64 0) ∧ VEq a pa b pb)
theorem drewN3 (w : World) (a b c : Nat) : ((w.drewN a).drewN b).drewN c = w.drewN (a + b + c) := by simp [World.drewN, Nat.add_assoc]
theorem cmp_lt {a b : ByteArray} {pa pb : Nat} (h : VLt a pa b pb) : CmpPost a pa b pb (.returned (.int .i64 (-1))) := .inl ⟨rfl, h⟩
theorem cmp_gt {a b : ByteArray} {pa pb : Nat} (h : VLt b pb a pa) : CmpPost a pa b pb (.returned (.int .i64 1)) := .inr (.inl ⟨rfl, h⟩)
theorem cmp_eq {a b : ByteArray} {pa pb : Nat} (h : VEq a pa b pb) : CmpPost a pa b pb (.returned (.int .i64 0)) := .inr (.inr ⟨rfl, h⟩)

set_option maxHeartbeats 4000000 in
theorem compare_at (a b : ByteArray) (pa pb : Nat) (w : World) (la : a.size ≤ 1048576) (lb : b.size ≤ 1048576) (ha : Digs a pa) (hb : Digs b pb) (qa : PointAt a pa) (qb : PointAt b pb) :
    Calls Try.prog 20 #[.string a, .string b] w fun e w' => CmpPost a pa b pb e ∧ ∃ n, w' = w.drewN n := by
  have hpa := ha.1
  have hpb := hb.1
  go_enter Try.func20, Try.ntmps20
  go_wp2_with fail
  refine (pointOf_at a pa _ la qa).mono ?_
  rintro e w' ⟨rfl, rfl⟩
  go_wp2_with fail
  refine (pointOf_at b pb _ lb qb).mono ?_
  rintro e w' ⟨rfl, rfl⟩
  go_upto_block 0 with fail
  go_cut [7] (fun i wx => w' = wx ∧ ∃ k : Nat, k ≤ pa ∧ i = .int .i64 k ∧ Hid (∀ j, j < k → bt a j = 48) ∧ Hid (k < pa → bt a k ≠ 48))
  case first =>
    go_wp2_with fail
    go_loop [7] (fun i => ∃ k : Nat, k ≤ pa ∧ i = .int .i64 k ∧ Hid (∀ j, j < k → bt a j = 48)) (fun i => pa - (intOf i).toNat)
    case atStart => exact ⟨0, Nat.zero_le _, rfl, fun j hj => absurd hj (Nat.not_lt_zero _)⟩
    case round =>
      obtain ⟨k, hk, rfl, hz⟩ := hrel
      by_cases hlt : k < pa
      · by_cases h2 : bt a k = 48
        · have hc : ((a[k].toNat : Int) == 48) = true := by rw [beq_iff_eq, bt_eq a k (by omega)]; exact h2
          have HC : Hid (bt a k = 48) := h2
          clear h2
          go_wp2
          go_round
          case rel => exact ⟨k + 1, by omega, by go_num, upto hz.out HC.out⟩
          case measure => simp [intOf]; omega
        · have hc : ((a[k].toNat : Int) == 48) = false := by rw [beq_eq_false_iff_ne, bt_eq a k (by omega)]; exact h2
          have HC : Hid (bt a k ≠ 48) := h2
          clear h2
          go_wp2
          go_meet
          case rel => exact ⟨rfl, k, hk, rfl, hz, fun _ => HC.out⟩
      · go_wp2
        go_meet
        case rel => exact ⟨rfl, k, hk, rfl, hz, fun h => absurd h (by omega)⟩
  case rest =>
  obtain ⟨rfl, sa, hsa, rfl, za, xa⟩ := hcut
  go_upto_block 2 with fail
  go_cut [8] (fun i wx => w' = wx ∧ ∃ k : Nat, k ≤ pb ∧ i = .int .i64 k ∧ Hid (∀ j, j < k → bt b j = 48) ∧ Hid (k < pb → bt b k ≠ 48))
  case first =>
    go_wp2_with fail
    go_loop [8] (fun i => ∃ k : Nat, k ≤ pb ∧ i = .int .i64 k ∧ Hid (∀ j, j < k → bt b j = 48)) (fun i => pb - (intOf i).toNat)
    case atStart => exact ⟨0, Nat.zero_le _, rfl, fun j hj => absurd hj (Nat.not_lt_zero _)⟩
    case round =>
      obtain ⟨k, hk, rfl, hz⟩ := hrel
      by_cases hlt : k < pb
      · by_cases h2 : bt b k = 48
        · have hc : ((b[k].toNat : Int) == 48) = true := by rw [beq_iff_eq, bt_eq b k (by omega)]; exact h2
          have HC : Hid (bt b k = 48) := h2
          clear h2
          go_wp2
          go_round
          case rel => exact ⟨k + 1, by omega, by go_num, upto hz.out HC.out⟩
          case measure => simp [intOf]; omega
        · have hc : ((b[k].toNat : Int) == 48) = false := by rw [beq_eq_false_iff_ne, bt_eq b k (by omega)]; exact h2
          have HC : Hid (bt b k ≠ 48) := h2
          clear h2
          go_wp2
          go_meet
          case rel => exact ⟨rfl, k, hk, rfl, hz, fun _ => HC.out⟩
      · go_wp2
        go_meet
        case rel => exact ⟨rfl, k, hk, rfl, hz, fun h => absurd h (by omega)⟩
  case rest =>
  obtain ⟨rfl, sb, hsb, rfl, zb, xb⟩ := hcut
  rcases Nat.lt_trichotomy (pa - sa) (pb - sb) with hl | hl | hl
  · have h1 : ((pa : Int) - (sa : Int) != (pb : Int) - (sb : Int)) = true := by rw [bne_iff_ne]; omega
    have HF : Hid (VLt a pa b pb) := cmp_len ha hb hsa hsb za.out zb.out xb.out hl
    go_wp2_with fail
    go_ret
    exact ⟨cmp_lt HF.out, 0, rfl⟩
  rotate_left
  · have h1 : ((pa : Int) - (sa : Int) != (pb : Int) - (sb : Int)) = true := by rw [bne_iff_ne]; omega
    have HF : Hid (VLt b pb a pa) := cmp_len hb ha hsb hsa zb.out za.out xa.out hl
    go_wp2_with fail
    go_ret
    exact ⟨cmp_gt HF.out, 0, rfl⟩
  have h1 : ((pa : Int) - (sa : Int) != (pb : Int) - (sb : Int)) = false := by rw [bne_eq_false_iff_eq]; omega
  have HL : Hid (pa - sa = pb - sb) := hl
  have hl1 : pb + sa ≤ pa + sb := by omega
  have hl2 : pa + sb ≤ pb + sa := by omega
  clear hl
  go_wp2_with fail
  go_loopw [11] (fun i wr => ∃ k n : Nat, k ≤ pa - sa ∧ i = .int .i64 k ∧ Hid (∀ j, j < k → bt a (sa + j) = bt b (sb + j)) ∧ wr = w'.drewN n) (fun i _ => pa - sa - (intOf i).toNat)
  case atStart => exact ⟨0, 0, Nat.zero_le _, rfl, fun j hj => absurd hj (Nat.not_lt_zero _), rfl⟩
  case round =>
    obtain ⟨k, n, hk, rfl, hh, rfl⟩ := hrel
    by_cases hlt : k < pa - sa
    · have c1 : (0 : Int) ≤ (sa : Int) + (k : Int) := by omega
      have c2 : (sa : Int) + (k : Int) < (a.size : Int) := by omega
      have c3 : (0 : Int) ≤ (sb : Int) + (k : Int) := by omega
      have c4 : (sb : Int) + (k : Int) < (b.size : Int) := by omega
      have hlb : k < pb - sb := by have := HL.out; omega
      have ea := bt_eq a (sa + k) (by omega)
      have eb := bt_eq b (sb + k) (by omega)
      rcases Int.lt_trichotomy (bt a (sa + k)) (bt b (sb + k)) with ht | ht | ht
      · have h2 : ((a[sa + k].toNat : Int) != (b[sb + k].toNat : Int)) = true := by rw [bne_iff_ne]; omega
        have h3 : (a[sa + k].toNat : Int) < (b[sb + k].toNat : Int) := by omega
        have HF : Hid (VLt a pa b pb) := cmp_whole ha hb hsa hsb za.out zb.out HL.out hlt hh.out ht
        clear ht ea eb
        go_wp2_with fail
        go_quiet (fail)
        go_wp2_with fail
        go_quiet (fail)
        go_wp2_with fail
        go_ret
        exact ⟨cmp_lt HF.out, _, drewN3 _ _ _ _⟩
      · have h2 : ((a[sa + k].toNat : Int) != (b[sb + k].toNat : Int)) = false := by rw [bne_eq_false_iff_eq]; omega
        have HC : Hid (bt a (sa + k) = bt b (sb + k)) := ht
        clear ht ea eb
        go_wp2_with fail
        go_quiet (fail)
        go_wp2_with fail
        go_roundw
        case rel => exact ⟨k + 1, _, by omega, by go_num, upto hh.out HC.out, rfl⟩
        case measure => simp [intOf]; omega
      · have h2 : ((a[sa + k].toNat : Int) != (b[sb + k].toNat : Int)) = true := by rw [bne_iff_ne]; omega
        have h3 : (b[sb + k].toNat : Int) ≤ (a[sa + k].toNat : Int) := by omega
        have HF : Hid (VLt b pb a pa) := cmp_whole hb ha hsb hsa zb.out za.out HL.out.symm hlb (fun j hj => (hh.out j hj).symm) ht
        clear ht ea eb
        go_wp2_with fail
        go_quiet (fail)
        go_wp2_with fail
        go_quiet (fail)
        go_wp2_with fail
        go_ret
        exact ⟨cmp_gt HF.out, _, drewN3 _ _ _ _⟩
    · have HQ : Hid (∀ j, j < pa - sa → bt a (sa + j) = bt b (sb + j)) := fun j hj => hh.out j (by omega)
      clear hh
      have hfa : (fr a pa).size ≤ 1048576 := by rw [size_fr]; omega
      have hfb : (fr b pb).size ≤ 1048576 := by rw [size_fr]; omega
      go_wp2_with fail
      refine (fracOf_any a pa _ la hpa).mono ?_
      rintro e w1 ⟨rfl, rfl⟩
      go_wp2_with fail
      refine (fracOf_any b pb _ lb hpb).mono ?_
      rintro e w1 ⟨rfl, rfl⟩
      have DA : Hid (∀ j : Nat, dAt (fr a pa) (j : Int) = (D a pa (pa + j) : Int)) := fun j => dAt_fr ha j
      have DB : Hid (∀ j : Nat, dAt (fr b pb) (j : Int) = (D b pb (pb + j) : Int)) := fun j => dAt_fr hb j
      have HX : Hid (∀ k : Nat, (∀ j, j < k → dAt (fr a pa) (j : Int) = dAt (fr b pb) (j : Int)) → dAt (fr a pa) (k : Int) < dAt (fr b pb) (k : Int) → (k < (fr a pa).size ∨ k < (fr b pb).size) → VLt a pa b pb) := fun k h1 h2 h3 => cmp_frac ha hb hsa hsb za.out zb.out HL.out HQ.out h1 h2 h3
      have HY : Hid (∀ k : Nat, (∀ j, j < k → dAt (fr a pa) (j : Int) = dAt (fr b pb) (j : Int)) → dAt (fr b pb) (k : Int) < dAt (fr a pa) (k : Int) → (k < (fr a pa).size ∨ k < (fr b pb).size) → VLt b pb a pa) := fun k h1 h2 h3 => cmp_frac hb ha hsb hsa zb.out za.out HL.out.symm (fun j hj => (HQ.out j (by have := HL.out; omega)).symm) (fun j hj => (h1 j hj).symm) h2 h3.symm
      have HZ : Hid (∀ m : Nat, (∀ j, j < m → dAt (fr a pa) (j : Int) = dAt (fr b pb) (j : Int)) → (fr a pa).size ≤ m → (fr b pb).size ≤ m → VEq a pa b pb) := fun m h1 h2 h3 => cmp_same ha hb hsa hsb za.out zb.out HL.out HQ.out h1 h2 h3
      clear HQ
      generalize fr a pa = fa at *
      generalize fr b pb = fb at *
      go_wp2_with fail
      refine (maxOf_any _ _ _).mono ?_
      rintro e w1 ⟨rfl, rfl⟩
      obtain ⟨m, hm⟩ : ∃ m : Nat, max (fa.size : Int) (fb.size : Int) = (m : Int) := ⟨max fa.size fb.size, by omega⟩
      have hm1 : fa.size ≤ m := by omega
      have hm2 : fb.size ≤ m := by omega
      have hm3 : m ≤ fa.size ∨ m ≤ fb.size := by omega
      have hm4 : m ≤ 1048576 := by omega
      rw [hm]
      have HM : Hid _ := hm3
      clear hm hm3
      go_wp2_with fail
      go_loop [15] (fun i => ∃ k : Nat, k ≤ m ∧ i = .int .i64 k ∧ Hid (∀ j : Nat, j < k → dAt fa (j : Int) = dAt fb (j : Int))) (fun i => m - (intOf i).toNat)
      case atStart => exact ⟨0, Nat.zero_le _, rfl, fun j hj => absurd hj (Nat.not_lt_zero _)⟩
      case round =>
        obtain ⟨q, hq, rfl, hf⟩ := hrel
        by_cases hqm : q < m
        · go_wp2_with fail
          refine (digitAt_any fa q _ hfa).mono ?_
          rintro e w1 ⟨rfl, rfl⟩
          go_wp2_with fail
          refine (digitAt_any fb q _ hfb).mono ?_
          rintro e w1 ⟨rfl, rfl⟩
          rcases Int.lt_trichotomy (dAt fa (q : Int)) (dAt fb (q : Int)) with ht | ht | ht
          · have HF : Hid (VLt a pa b pb) := HX.out q hf.out ht (by have := HM.out; omega)
            have h2 : (dAt fa (q : Int) != dAt fb (q : Int)) = true := by rw [bne_iff_ne]; omega
            generalize dAt fa (q : Int) = da at *
            generalize dAt fb (q : Int) = db at *
            go_wp2_with fail
            go_ret
            exact ⟨cmp_lt HF.out, _, rfl⟩
          · have HC : Hid (dAt fa (q : Int) = dAt fb (q : Int)) := ht
            have h2 : (dAt fa (q : Int) != dAt fb (q : Int)) = false := by rw [bne_eq_false_iff_eq]; exact ht
            clear ht
            go_wp2_with fail
            go_round
            case rel => exact ⟨q + 1, by omega, by go_num, upto hf.out HC.out⟩
            case measure => simp [intOf]; omega
          · have HF : Hid (VLt b pb a pa) := HY.out q hf.out ht (by have := HM.out; omega)
            have h2 : (dAt fa (q : Int) != dAt fb (q : Int)) = true := by rw [bne_iff_ne]; omega
            have h3 : dAt fb (q : Int) ≤ dAt fa (q : Int) := by omega
            generalize dAt fa (q : Int) = da at *
            generalize dAt fb (q : Int) = db at *
            go_wp2_with fail
            go_ret
            exact ⟨cmp_gt HF.out, _, rfl⟩
        · have HF : Hid (VEq a pa b pb) := HZ.out q hf.out (by omega) (by omega)
          go_wp2_with fail
          go_ret
          exact ⟨cmp_eq HF.out, _, rfl⟩

end Go.Proofs.Qxb6000559a.Num
