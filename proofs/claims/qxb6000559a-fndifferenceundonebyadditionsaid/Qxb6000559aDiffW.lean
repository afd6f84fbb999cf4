/-
  Seat b6000559a: the walk of Difference.
-/
import Derived.Test.Qxb6000559aDiffM
import Derived.Test.Qxb6000559aCut
namespace Go.Proofs.Qxb6000559a.Num
open Go.RowKit

/-- Difference's answer: a canonical text that added to b has the value of a. -/
def DiffPost (a : ByteArray) (pa : Nat) (b : ByteArray) (pb : Nat) (e : Ending) : Prop :=
  ∃ t q, e = .returned (.string t) ∧ t.size ≤ 131074 ∧ Canon t q ∧ ∀ K, a.size ≤ K → b.size ≤ K → V t q K + V b pb K = V a pa K

set_option maxRecDepth 100000 in
set_option maxHeartbeats 4000000 in
theorem diff_any (a b : ByteArray) (pa pb : Nat) (w : World) (la : a.size ≤ 65536) (lb : b.size ≤ 65536) (a0 : 0 < pa) (ha : Digs a pa) (hb : Digs b pb) (qa : PointAt a pa) (qb : PointAt b pb)
    (hle : ∀ K, a.size ≤ K + pa + 1 → b.size ≤ K + pb + 1 → V b pb K ≤ V a pa K) :
    Calls Try.prog 24 #[.string a, .string b] w fun e w' => DiffPost a pa b pb e ∧ Below w.heap.size w w' := by
  have hpa := ha.1
  have hpb := hb.1
  have sWa : (a.extract 0 pa).size = pa := by rw [size_extract' a 0 pa (Nat.zero_le _) hpa]; omega
  have sWb : (b.extract 0 pb).size = pb := by rw [size_extract' b 0 pb (Nat.zero_le _) hpb]; omega
  have sFa := size_fr a pa
  have sFb := size_fr b pb
  obtain ⟨whole, hwh⟩ : ∃ whole : Nat, whole = max pa pb := ⟨_, rfl⟩
  obtain ⟨places, hpl⟩ : ∃ places : Nat, places = max (a.size - (pa + 1)) (b.size - (pb + 1)) := ⟨_, rfl⟩
  have hwa : pa ≤ whole := by omega
  have hwb : pb ≤ whole := by omega
  have hfa : (fr a pa).size ≤ places := by omega
  have hfb : (fr b pb).size ≤ places := by omega
  have hwl : whole ≤ 65536 := by omega
  have hpl2 : places ≤ 65536 := by omega
  have hVle : V b pb places ≤ V a pa places := hle places (by omega) (by omega)
  -- the plain law, laid ahead
  obtain ⟨n, hn⟩ : ∃ n, n = whole + places + 1 := ⟨_, rfl⟩
  have HX : Hid (∀ x : ByteArray, x.size = n → (∀ j, j < x.size → bt x j = zz (alF (a.extract 0 pa) (fr a pa) whole) (alF (b.extract 0 pb) (fr b pb) whole) whole n j) → Digs x whole ∧ PointAt x whole ∧ ∀ K, places ≤ K → V x whole K + V b pb K = V a pa K) := by
    rw [hn]; exact fun x h1 h2 => diff_text ha hb hwa hwb hfa hfb h1 h2 hVle
  have HRA := hide1 (al_range (places := places) ha hwa hfa)
  have HRB := hide1 (al_range (places := places) hb hwb hfb)
  have HPA := hide1 (al_point (a.extract 0 pa) (fr a pa) whole)
  have HCA := hide1 (cut_at a pa (by omega) qa)
  have HCB := hide1 (cut_at b pb (by omega) qb)
  have HAA := fun w => hide1 (aligned_any (a.extract 0 pa) (fr a pa) whole places w (by omega) (by omega) hfa n (by omega) (by omega))
  have HAB := fun w => hide1 (aligned_any (b.extract 0 pb) (fr b pb) whole places w (by omega) (by omega) hfb n (by omega) (by omega))
  have Hn := hide1 hn
  have hn1 : n ≤ 131074 := by omega
  have hn2 : whole < n := by omega
  have hn3 : whole + places < n := by omega
  clear hn
  have Hwh := hide1 hwh
  have Hpl := hide1 hpl
  have HsWa := hide1 sWa
  have HsWb := hide1 sWb
  have HsFa := hide1 sFa
  have HsFb := hide1 sFb
  clear hwh hpl sWa sWb sFa sFb
  generalize hA : alF (a.extract 0 pa) (fr a pa) whole = A at *
  generalize hB : alF (b.extract 0 pb) (fr b pb) whole = B at *
  clear hA hB
  generalize a.extract 0 pa = Wa at *
  generalize b.extract 0 pb = Wb at *
  generalize fr a pa = Fa at *
  generalize fr b pb = Fb at *
  go_enter Try.func24, Try.ntmps24
  go_wp2_with fail
  refine (HCA.out _).mono ?_
  rintro e w1 ⟨rfl, n1, rfl⟩
  go_wp2_with fail
  refine (HCB.out _).mono ?_
  rintro e w1 ⟨rfl, n2, rfl⟩
  go_wp2_with fail
  have m1 : max (Wa.size : Int) (Wb.size : Int) = (whole : Int) := by have := Hwh.out; have := HsWa.out; have := HsWb.out; omega
  have m2 : max (Fa.size : Int) (Fb.size : Int) = (places : Int) := by have := Hpl.out; have := HsFa.out; have := HsFb.out; omega
  rw [m1, m2]
  clear m1 m2
  refine ((HAA _).out).mono ?_
  rintro e w1 ⟨h1, rfl, R1, hh1, hl1, hB1⟩
  have hBw1 : Below w.heap.size w w1 := (below_drewN (Below.refl _ w) (n1 + n2)).trans hB1
  have hg1 : w.heap.size ≤ h1 := hh1
  clear hB1 hh1
  go_wp2_with fail
  refine ((HAB _).out).mono ?_
  rintro e w2 ⟨h2, rfl, R2, hh2, hl2, hB2⟩
  have hBw2 : Below w.heap.size w w2 := hBw1.trans (hB2.mono hBw1.size)
  have R1' := R1.below hB2 hl1
  have hg2 : w.heap.size ≤ h2 := Nat.le_trans hBw1.size hh2
  have hne : ¬ h1 = h2 := by omega
  have AR1 : Aside (Row w2 h1 n (work A B whole n n)) := R1'.congr (fun j hj => work_start j hj)
  have AR2 : Aside (Row w2 h2 n B) := R2
  have AB : Aside (Below w.heap.size w w2) := hBw2
  clear R1 R1' R2 hB2 hBw1 hBw2 hh2 hl1 hl2 HAA HAB HCA HCB
  go_wp2_with fail
  go_loopg [15, 16] n (fun gh s15 s16 wr => ∃ k : Nat, k ≤ n ∧ k ≤ gh ∧ s15 = .int .i64 (bo A B whole n (n - k)) ∧ s16 = .int .i64 ((k : Int) - 1) ∧ Aside (Row wr h1 n (work A B whole n k)) ∧ Aside (Row wr h2 n B) ∧ Aside (Below w.heap.size w wr))
  case atStart => exact ⟨n, Nat.le_refl _, Nat.le_refl _, by rw [Nat.sub_self]; rfl, by go_num, AR1, AR2, AB⟩
  case round =>
    obtain ⟨k, hk, hgh, rfl, h16, AR1', AR2', AB'⟩ := hrel
    clear AR1 AR2 AB
    cases k with
    | zero =>
      have e0 : ((0 : Nat) : Int) - 1 = -1 := by omega
      rw [e0] at h16
      subst h16
      have RZ : Row wr h1 n (zz A B whole n) := AR1'.out.congr (fun j _ => work_end j)
      have hconv := run_string RZ
      have hzr : ∀ j, j < n → 0 ≤ zz A B whole n j ∧ zz A B whole n j < 256 := fun j hj => zz_range hj (HRA.out j (by have := Hn.out; omega)) (HRB.out j (by have := Hn.out; omega))
      have hXs := strOf_size n (zz A B whole n)
      obtain ⟨xd, xp, xv⟩ := HX.out (strOf n (zz A B whole n)) hXs (fun j hj => strOf_bt n _ j (by omega) (hzr j (by omega)))
      have HXV := hide1 xv
      have HXS := hide1 hXs
      have hXs2 : (strOf n (zz A B whole n)).size ≤ 131074 := by omega
      clear hzr xv hXs RZ
      generalize strOf n (zz A B whole n) = X at *
      go_wp2_with fail
      refine (Trim_at X whole _ (by omega) (by omega) xp).mono ?_
      rintro e w3 ⟨⟨st, en, q, hq, ht, rfl⟩, rfl⟩
      have HC := hide1 (canon_of_trim xd xp hq ht)
      have HV := hide1 (canon_value hq ht)
      have HT : Hid ((X.extract st en).size ≤ 131074) := by show _ ≤ _; rw [trim_size ht]; have := ht.2.2.1; omega
      clear ht hq hconv
      generalize X.extract st en = t at *
      go_wp2_with fail
      go_ret
      exact ⟨⟨t, q, rfl, HT.out, HC.out, fun K k1 k2 => by rw [HV.out K]; exact HXV.out K (by have := Hpl.out; omega)⟩, AB'.out⟩
    | succ q =>
      have e0 : ((q + 1 : Nat) : Int) - 1 = (q : Int) := by omega
      rw [e0] at h16
      subst h16
      clear e0
      by_cases hq : q = whole
      · subst hq
        have hb1 : ((q : Int) == (q : Int)) = true := by simp
        have HBo := hide1 (bo_point (A := A) (B := B) hn2)
        have AR : Aside (Row wr h1 n (work A B q n q)) := AR1'.out.congr (fun j _ => work_point HPA.out j)
        clear AR1'
        go_wp2_with fail
        go_roundg q
        case measure => omega
        case rel => exact ⟨q, by omega, Nat.le_refl _, by rw [HBo.out], by rfl, AR, AR2', AB'⟩
      · have hb1 : ((q : Int) == (whole : Int)) = false := by rw [beq_eq_false_iff_ne]; omega
        obtain ⟨xa1, xa2⟩ := HRA.out q (by have := Hn.out; omega) hq
        obtain ⟨xb1, xb2⟩ := HRB.out q (by have := Hn.out; omega) hq
        have hc1 : wr.cell? ⟨h1, q, none⟩ = some (.int .u8 (A q)) := by have := AR1'.out.cells q (by omega); rwa [work_read] at this
        have hc2 : wr.cell? ⟨h2, q, none⟩ = some (.int .u8 (B q)) := AR2'.out.cells q (by omega)
        have hf1 : wr.frozen? ⟨h1, q, none⟩ = false := AR1'.out.free q (by omega)
        have hb01 : 0 ≤ bo A B whole n (n - (q + 1)) ∧ bo A B whole n (n - (q + 1)) ≤ 1 := by rcases bo_01 A B whole n (n - (q + 1)) with h | h <;> omega
        obtain ⟨hb01a, hb01b⟩ := hb01
        have hqn : (q : Int) < (n : Int) := by omega
        have hq0 : (0 : Int) ≤ (q : Int) := by omega
        by_cases hd : A q - B q - bo A B whole n (n - (q + 1)) < 0
        · have HZ := hide1 (zz_neg (by omega) hq hd)
          have HBo := hide1 (bo_step (A := A) (B := B) (by omega : q < n) hq)
          have HD := hide1 hd
          generalize A q = x at *
          generalize B q = y at *
          generalize bo A B whole n (n - (q + 1)) = c at *
          go_wp2_with fail
          go_quiet (fail)
          go_wp2_with fail
          have AR : Aside (Row ((wr.drewN nq).setCell ⟨h1, q, none⟩ (.int .u8 (48 + (x - y - c + 10)))) h1 n (work A B whole n q)) := ((AR1'.out.drewN nq).set q (by omega) (48 + (x - y - c + 10))).congr (fun j _ => work_step HZ.out.symm j)
          have AS : Aside (Row ((wr.drewN nq).setCell ⟨h1, q, none⟩ (.int .u8 (48 + (x - y - c + 10)))) h2 n B) := (AR2'.out.drewN nq).other (by omega) _
          have AT : Aside (Below w.heap.size w ((wr.drewN nq).setCell ⟨h1, q, none⟩ (.int .u8 (48 + (x - y - c + 10))))) := (below_drewN AB'.out nq).setCell (p := ⟨h1, q, none⟩) hg1 _
          go_roundg q
          case measure => omega
          case rel => exact ⟨q, by omega, Nat.le_refl _, by rw [HBo.out, if_pos HD.out], by rfl, AR, AS, AT⟩
        · have HZ := hide1 (zz_pos (by omega) hq hd)
          have HBo := hide1 (bo_step (A := A) (B := B) (by omega : q < n) hq)
          have HD := hide1 hd
          generalize A q = x at *
          generalize B q = y at *
          generalize bo A B whole n (n - (q + 1)) = c at *
          have hd' : 0 ≤ x - y - c := by omega
          clear hd
          go_wp2_with fail
          go_quiet (fail)
          go_wp2_with fail
          have AR : Aside (Row ((wr.drewN nq).setCell ⟨h1, q, none⟩ (.int .u8 (48 + (x - y - c)))) h1 n (work A B whole n q)) := ((AR1'.out.drewN nq).set q (by omega) (48 + (x - y - c))).congr (fun j _ => work_step HZ.out.symm j)
          have AS : Aside (Row ((wr.drewN nq).setCell ⟨h1, q, none⟩ (.int .u8 (48 + (x - y - c)))) h2 n B) := (AR2'.out.drewN nq).other (by omega) _
          have AT : Aside (Below w.heap.size w ((wr.drewN nq).setCell ⟨h1, q, none⟩ (.int .u8 (48 + (x - y - c))))) := (below_drewN AB'.out nq).setCell (p := ⟨h1, q, none⟩) hg1 _
          go_roundg q
          case measure => omega
          case rel => exact ⟨q, by omega, Nat.le_refl _, by rw [HBo.out, if_neg (by have := HD.out; omega)], by rfl, AR, AS, AT⟩

end Go.Proofs.Qxb6000559a.Num
