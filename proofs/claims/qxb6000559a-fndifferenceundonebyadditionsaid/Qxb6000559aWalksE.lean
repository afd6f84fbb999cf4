/-
  Seat b6000559a: trim by places, ZZtrim, Trim; the walk of FnTrimCanonicalEqualValuePartOfInput.
-/
import Derived.Test.Qxb6000559aWalksC
import Derived.Test.Qxb6000559aWalksD
import Derived.Test.Qxb6000559aTrimP
import Derived.Test.Qxb6000559aShelf
import Derived.RowKit3
namespace Go.Proofs.Qxb6000559a.Num
open Go.RowKit

theorem idx_at (s : ByteArray) (p : Nat) (h : PointAt s p) : IdxAt s (if p < s.size then (p : Int) else -1) := by
  intro w
  refine (Try.strings_IndexByte s 46 w).mono ?_
  rintro e w' ⟨rfl, rfl⟩
  refine ⟨?_, rfl⟩
  have := indexByte_at s p h
  exact congrArg (fun x => Ending.returned (.int .i64 x)) this

theorem trim_at (s : ByteArray) (p : Nat) (w : World) (hs : s.size ≤ 1048576) (h0 : 0 < p) (hp : PointAt s p) :
    Calls Try.prog 31 #[.string s] w fun e w' => TrimPost s p e ∧ w' = w := by
  have hi := idx_at s p hp
  by_cases h : p < s.size
  · rw [if_pos h] at hi
    exact trim_point s p w hs h0 h hi
  · rw [if_neg h] at hi
    have e : p = s.size := by have := hp.1; omega
    subst e
    exact trim_nopoint s w hs h0 hi

theorem zztrim_at (s : ByteArray) (p : Nat) (w : World) (hs : s.size ≤ 1048576) (h0 : 0 < p) (hp : PointAt s p) :
    Calls Try.prog 17 #[.string s] w fun e w' => TrimPost s p e ∧ w' = w := by
  go_enter Try.func17, Try.ntmps17
  go_wp2_with fail
  refine (trim_at s p _ hs h0 hp).mono ?_
  rintro e w' ⟨⟨st, en, ht, rfl⟩, rfl⟩
  have HT : Hid _ := ht
  clear ht
  go_wp2_with fail
  go_ret2
  exact ⟨trimPost_mk HT.out rfl, rfl⟩

theorem grown_drewN {W w : World} (n : Nat) (h : Grown W w) : Grown W (w.drewN n) := by
  induction n with
  | zero => exact h
  | succ n ih => exact ih

theorem hide1 {p : Prop} (h : p) : Hid p := h

theorem trimPost_q {s : ByteArray} {p : Nat} {e : Ending} (h : TrimPost s p e) : ∃ st en q : Nat, p = st + q ∧ TrimIdx s p st en ∧ e = .returned (.tuple #[.string (s.extract st en), .int .i64 (q : Int)]) := by
  obtain ⟨st, en, ht, rfl⟩ := h
  have h1 := ht.1
  refine ⟨st, en, p - st, by omega, ht, ?_⟩
  have e1 : (p : Int) - (st : Int) = ((p - st : Nat) : Int) := by omega
  rw [e1]

theorem cmp_of_veq {a b : ByteArray} {pa pb : Nat} {e : Ending} (h : CmpPost a pa b pb e) (hv : VEq a pa b pb) : e = .returned (.int .i64 0) := by
  rcases h with ⟨_, h⟩ | ⟨_, h⟩ | ⟨h, _⟩
  · have h1 := h (a.size + b.size) (by omega) (by omega)
    rw [hv] at h1; omega
  · have h1 := h (a.size + b.size) (by omega) (by omega)
    rw [hv] at h1; omega
  · exact h

/-- all that the law asks of t -/
structure Good (s : ByteArray) (p st q : Nat) (t : ByteArray) : Prop where
  plain : Plain t
  point : PointAt t q
  digs : Digs t q
  value : VEq t q s p
  size : 0 < t.size
  room : st + t.size ≤ s.size
  piece : s.extract st (st + t.size) = t
  head : 1 < q → bt t 0 ≠ 48
  last : q < t.size → bt t (t.size - 1) ≠ 48
  zeros : ∀ z, z ≤ s.size → (∀ j, j < z → bt s j = 48) → (z < s.size → bt s z ≠ 48) → if bt t 0 = 48 then z = st + 1 else z = st

theorem good_of {s : ByteArray} {p st en q : Nat} (hd : Digs s p) (hp : PointAt s p) (hq : p = st + q) (h : TrimIdx s p st en) : Good s p st q (s.extract st en) := by
  have e : p - st = q := by omega
  have h1 := h.1; have h2 := h.2.1; have h3 := h.2.2.1
  have hz := trim_size h
  have a := trim_point_at hp h
  have b := trim_digs hd h
  have c := trim_value h
  have d := trim_head h
  have f := trim_last h
  rw [e] at a b c d f
  refine ⟨trim_plain hd hp h, a, b, c, by omega, by omega, ?_, d, f, trim_zeros hp h⟩
  rw [hz]
  congr 1; omega

set_option maxRecDepth 100000 in
set_option maxHeartbeats 4000000 in
/-- the law's road, once s is a plain number -/
theorem law1_main (s : ByteArray) (p : Nat) (w : World) (hs : s.size ≤ 65536) (h0 : 0 < p) (hd : Digs s p) (hp : PointAt s p) (hpl : Plain s) :
    Calls Try.prog 6 #[.string s] w fun e w' => e = .returned (.bool true) ∧ Grown w w' := by
  have hz : decide (s.size ≤ 1048576) = true := by simp; omega
  go_enter Try.func6, Try.ntmps6
  go_wp2_with fail
  refine (zzTrim_any s _ (by unfold maxLen; omega)).mono ?_
  rintro e w' ⟨rfl, rfl⟩
  go_wp2_with fail
  refine (isPlain_any s _ (by omega)).mono ?_
  rintro e w' ⟨⟨b, rfl, hb⟩, rfl⟩
  obtain rfl : b = true := hb.2 hpl
  clear hb
  go_wp2_with fail
  refine (zztrim_at s p _ (by omega) h0 hp).mono ?_
  rintro e w' ⟨hT, rfl⟩
  obtain ⟨st, en, q, hq, ht, rfl⟩ := trimPost_q hT
  have G := good_of hd hp hq ht
  clear hT ht hq
  generalize s.extract st en = t at *
  have hts := G.size
  have hrm := G.room
  have lt : t.size ≤ 1048576 := by omega
  go_wp2_with fail
  refine (isPlain_any t _ lt).mono ?_
  rintro e w' ⟨⟨b, rfl, hb⟩, rfl⟩
  obtain rfl : b = true := hb.2 G.plain
  clear hb
  go_wp2_with fail
  refine (pointOf_at t q _ lt G.point).mono ?_
  rintro e w' ⟨rfl, rfl⟩
  have hc1 : 1 < q → ((t[0].toNat : Int) == 48) = false := fun h => by rw [beq_eq_false_iff_ne, bt_eq t 0 hts]; exact G.head h
  have hc2 : q < t.size → ((t[t.size - 1].toNat : Int) == 48) = false := fun h => by rw [beq_eq_false_iff_ne, bt_eq t _ (by omega)]; exact G.last h
  go_upto_region 13 with fail
  go_cut [36] (fun x wx => x = .bool false ∧ w' = wx)
  case first =>
    by_cases h1 : 1 < q
    · have hc := hc1 h1
      clear hc1 hc2
      go_wp2_with fail
      go_meet
      case rel => exact ⟨rfl, rfl⟩
    · clear hc1 hc2
      go_wp2_with fail
      go_meet
      case rel => exact ⟨rfl, rfl⟩
  case rest =>
  obtain ⟨rfl, rfl⟩ := hcut
  go_upto_region 15 with fail
  go_cut [48] (fun x wx => x = .bool false ∧ w' = wx)
  case first =>
    by_cases h1 : q < t.size
    · have hc := hc2 h1
      clear hc1 hc2
      go_wp2_with fail
      go_meet
      case rel => exact ⟨rfl, rfl⟩
    · clear hc1 hc2
      go_wp2_with fail
      go_meet
      case rel => exact ⟨rfl, rfl⟩
  case rest =>
  obtain ⟨rfl, rfl⟩ := hcut
  clear hc1 hc2
  go_wp2_with fail
  refine (compare_at t s q p _ lt (by omega) G.digs hd G.point hp).mono ?_
  rintro e w1 ⟨hC, n, rfl⟩
  obtain rfl := cmp_of_veq hC G.value
  clear hC
  go_upto_block 0 with fail
  go_cut [6] (fun x wx => w'.drewN n = wx ∧ ∃ z : Nat, z ≤ s.size ∧ x = .int .i64 z ∧ Hid (∀ j, j < z → bt s j = 48) ∧ Hid (z < s.size → bt s z ≠ 48))
  case first =>
    go_wp2_with fail
    go_loop [6] (fun i => ∃ k : Nat, k ≤ s.size ∧ i = .int .i64 k ∧ Hid (∀ j, j < k → bt s j = 48)) (fun i => s.size - (intOf i).toNat)
    case atStart => exact ⟨0, Nat.zero_le _, rfl, fun j hj => absurd hj (Nat.not_lt_zero _)⟩
    case round =>
      obtain ⟨k, hk, rfl, hz⟩ := hrel
      by_cases hlt : k < s.size
      · by_cases h2 : bt s k = 48
        · have hc : ((s[k].toNat : Int) == 48) = true := by rw [beq_iff_eq, bt_eq s k (by omega)]; exact h2
          have HC : Hid (bt s k = 48) := h2
          clear h2
          go_wp2
          go_round
          case rel => exact ⟨k + 1, by omega, by go_num, upto hz.out HC.out⟩
          case measure => simp [intOf]; omega
        · have hc : ((s[k].toNat : Int) == 48) = false := by rw [beq_eq_false_iff_ne, bt_eq s k (by omega)]; exact h2
          have HC : Hid (bt s k ≠ 48) := h2
          clear h2
          go_wp2
          go_meet
          case rel => exact ⟨rfl, k, hk, rfl, hz, fun _ => HC.out⟩
      · go_wp2
        go_meet
        case rel => exact ⟨rfl, k, hk, rfl, hz, fun h => absurd h (by omega)⟩
  case rest =>
  obtain ⟨rfl, z, hz1, rfl, hz2, hz3⟩ := hcut
  have hzz := G.zeros z hz1 hz2.out hz3.out
  have HP : Hid (s.extract st (st + t.size) = t) := G.piece
  clear hz2 hz3
  by_cases h48 : bt t 0 = 48
  · rw [if_pos h48] at hzz
    have hc : ((t[0].toNat : Int) == 48) = true := by rw [beq_iff_eq, bt_eq t 0 hts]; exact h48
    clear h48 G
    subst hzz
    go_wp2_with fail
    go_ret
    exact ⟨ret_bool (by rw [HP.out]; simp), grown_drewN _ (Grown.refl _)⟩
  · rw [if_neg h48] at hzz
    have hc : ((t[0].toNat : Int) == 48) = false := by rw [beq_eq_false_iff_ne, bt_eq t 0 hts]; exact h48
    clear h48 G
    subst hzz
    go_wp2_with fail
    go_ret
    exact ⟨ret_bool (by rw [HP.out]; simp), grown_drewN _ (Grown.refl _)⟩

end Go.Proofs.Qxb6000559a.Num
