/-
  Seat b6000559a: the walk of addPlain.
-/
import Derived.Test.Qxb6000559aDiffM
import Derived.Test.Qxb6000559aAddP
import Derived.Test.Qxb6000559aWalksE
import Derived.Deep.OwnRows
namespace Go.Proofs.Qxb6000559a.Num
open Go.RowKit

theorem row_made (w : World) (n : Nat) : Row (w.alloc (.cells (madeCells #[.int .u8 0] n) 5)) w.heap.size n (fun _ => 0) := by
  refine ⟨fun j hj => ?_, fun j hj => ?_⟩
  · rw [World.cell?_alloc_mark]
    simp [madeCells, hj, Nat.mod_one]
  · have := World.frozen?_alloc_mark w (madeCells #[.int .u8 0] n) 5 0 0 j
    rw [this]; simp

/-- the row while addPlain works: from k on the new bytes, ahead of it zeros -/
def addw (f g : Nat → Nat) (whole N k j : Nat) : Int := if k ≤ j then sm f g whole N j else 0

theorem addw_start {f g : Nat → Nat} {whole N n : Nat} (j : Nat) (hj : j < n) : 0 = addw f g whole N n j := by
  unfold addw; rw [if_neg (by omega)]
theorem addw_step {f g : Nat → Nat} {whole N q : Nat} {x : Int} (hx : x = sm f g whole N q) (j : Nat) : (if j = q then x else addw f g whole N (q + 1) j) = addw f g whole N q j := by
  unfold addw
  by_cases h : j = q
  · subst h; rw [if_pos rfl, if_pos (Nat.le_refl _), hx]
  · rw [if_neg h]
    by_cases h2 : q + 1 ≤ j
    · rw [if_pos h2, if_pos (by omega)]
    · rw [if_neg h2, if_neg (by omega)]
theorem addw_end {f g : Nat → Nat} {whole N : Nat} (j : Nat) : addw f g whole N 0 j = sm f g whole N j := by
  unfold addw; rw [if_pos (Nat.zero_le _)]

/-- addPlain's answer: a text of the sum's value. -/
def AddPost (a : ByteArray) (pa : Nat) (b : ByteArray) (pb : Nat) (e : Ending) : Prop :=
  ∃ x q, e = .returned (.string x) ∧ x.size ≤ 1048576 ∧ Digs x q ∧ PointAt x q ∧ ∀ K, a.size ≤ K → b.size ≤ K → V x q K = V a pa K + V b pb K

set_option maxRecDepth 100000 in
set_option maxHeartbeats 4000000 in
theorem add_any (a b : ByteArray) (pa pb : Nat) (w : World) (la : a.size ≤ 262144) (lb : b.size ≤ 262144) (ha : Digs a pa) (hb : Digs b pb) (qa : PointAt a pa) (qb : PointAt b pb) :
    Calls Try.prog 25 #[.string a, .string b] w fun e w' => AddPost a pa b pb e ∧ Below w.heap.size w w' := by
  have hpa := ha.1
  have hpb := hb.1
  have sWa : (a.extract 0 pa).size = pa := by rw [size_extract' a 0 pa (Nat.zero_le _) hpa]; omega
  have sWb : (b.extract 0 pb).size = pb := by rw [size_extract' b 0 pb (Nat.zero_le _) hpb]; omega
  have sFa := size_fr a pa
  have sFb := size_fr b pb
  obtain ⟨whole, hwh⟩ : ∃ whole : Nat, whole = max pa pb := ⟨_, rfl⟩
  obtain ⟨places, hpl⟩ : ∃ places : Nat, places = max (a.size - (pa + 1)) (b.size - (pb + 1)) := ⟨_, rfl⟩
  have hwa : pa ≤ whole := by omega
  have hwb : pb ≤ whole := by omega
  have hfa : (fr a pa).size ≤ places := by omega
  have hfb : (fr b pb).size ≤ places := by omega
  have hwl : whole ≤ 262144 := by omega
  have hpl2 : places ≤ 262144 := by omega
  obtain ⟨n, hn⟩ : ∃ n, n = whole + 2 + places := ⟨_, rfl⟩
  obtain ⟨N, hN⟩ : ∃ N, N = whole + 1 + places := ⟨_, rfl⟩
  have HX : Hid (∀ x : ByteArray, x.size = n → (∀ j, j < x.size → bt x j = sm (padD a pa (whole + 1)) (padD b pb (whole + 1)) whole N j) → Digs x (whole + 1) ∧ PointAt x (whole + 1) ∧ ∀ K, places ≤ K → V x (whole + 1) K = V a pa K + V b pb K) := by
    rw [hn, hN]; exact fun x h1 h2 => sum_text ha hb hwa hwb hfa hfb h1 h2
  have Hn := hide1 hn
  have HN := hide1 hN
  have hn1 : n ≤ 524290 := by omega
  have hn2 : whole + 2 + places ≤ n := by omega
  have hn3 : n ≤ whole + 2 + places := by omega
  have hmk : ∀ W, (Instr.makeSlice 36 (.int .i64 ((whole : Int) + 2 + (places : Int))) (.int .i64 ((whole : Int) + 2 + (places : Int)))).run Try.prog W = .ok (.slice (some ⟨W.heap.size, 0, none⟩) n n) (W.alloc (.cells (madeCells #[.int .u8 0] n) 5)) := fun W => by
    rw [show ((whole : Int) + 2 + (places : Int)) = (n : Int) by omega]
    exact run_make_row' 36 5 (.int .u8 0) 1 und36 (by kernel_rfl) rfl .i64 .i64 n (by omega) (by omega) W
  clear hn hN
  have QFA := hide1 (ask_frac (s := a) ha hwa)
  have QFB := hide1 (ask_frac (s := b) hb hwb)
  have QWA := hide1 (ask_whole (s := a) ha hwa)
  have QWB := hide1 (ask_whole (s := b) hb hwb)
  have LA := hide1 (fun i => padD_lt (whole := whole + 1) ha i)
  have LB := hide1 (fun i => padD_lt (whole := whole + 1) hb i)
  have A0 : Hid (padD a pa (whole + 1) 0 = 0) := by show _ = _; unfold padD; rw [if_pos (by omega)]
  have B0 : Hid (padD b pb (whole + 1) 0 = 0) := by show _ = _; unfold padD; rw [if_pos (by omega)]
  have CFA := fun w => hide1 (fracOf_any a pa w (by omega) hpa)
  have CFB := fun w => hide1 (fracOf_any b pb w (by omega) hpb)
  have Hwh := hide1 hwh
  have Hpl := hide1 hpl
  have HsWa := hide1 sWa
  have HsWb := hide1 sWb
  have HsFa := hide1 sFa
  have HsFb := hide1 sFb
  clear hwh hpl sWa sWb sFa sFb
  generalize padD a pa (whole + 1) = fA at *
  generalize padD b pb (whole + 1) = fB at *
  generalize fr a pa = Fa at *
  generalize fr b pb = Fb at *
  go_enter Try.func25, Try.ntmps25
  go_wp2_with fail
  refine (pointOf_at a pa _ (by omega) qa).mono ?_
  rintro e w' ⟨rfl, rfl⟩
  go_wp2_with fail
  refine (pointOf_at b pb _ (by omega) qb).mono ?_
  rintro e w' ⟨rfl, rfl⟩
  have c1 : (pa : Int) ≤ (a.size : Int) := by omega
  have c2 : (pb : Int) ≤ (b.size : Int) := by omega
  go_wp2_with fail
  go_quiet (fail)
  generalize a.extract 0 pa = Wa at *
  generalize b.extract 0 pb = Wb at *
  go_wp2_with fail
  refine ((CFA _).out).mono ?_
  rintro e w1 ⟨rfl, rfl⟩
  go_wp2_with fail
  refine ((CFB _).out).mono ?_
  rintro e w1 ⟨rfl, rfl⟩
  go_wp2_with fail
  refine (maxOf_any _ _ _).mono ?_
  rintro e w1 ⟨rfl, rfl⟩
  go_wp2_with fail
  refine (maxOf_any _ _ _).mono ?_
  rintro e w1 ⟨rfl, rfl⟩
  have m1 : max (Wa.size : Int) (Wb.size : Int) = (whole : Int) := by have := Hwh.out; have := HsWa.out; have := HsWb.out; omega
  have m2 : max (Fa.size : Int) (Fb.size : Int) = (places : Int) := by have := Hpl.out; have := HsFa.out; have := HsFb.out; omega
  rw [m1, m2]
  clear m1 m2
  obtain ⟨w2, hw2⟩ : ∃ w2 : World, w2 = w'.drewN nq := ⟨_, rfl⟩
  have R0 : Row ((w'.alloc (.cells (madeCells #[.int .u8 0] n) 5)).drewN nq) w'.heap.size n (addw fA fB whole N n) := ((row_made w' n).drewN nq).congr (fun j hj => addw_start j hj)
  have B1 : Below w'.heap.size w' ((w'.alloc (.cells (madeCells #[.int .u8 0] n) 5)).drewN nq) := below_drewN ((Below.refl _ _).alloc (Nat.le_refl _) _) nq
  have AR0 : Aside _ := R0
  have AB0 : Aside _ := B1
  clear R0 B1 hw2
  go_wp2_with fail
  go_loopg [14, 15] places (fun gh s14 s15 wr => ∃ k : Nat, k ≤ places ∧ k ≤ gh ∧ s14 = .int .i64 (cy fA fB N (places - k) : Int) ∧ s15 = .int .i64 ((k : Int) - 1) ∧ Aside (Row wr w'.heap.size n (addw fA fB whole N (whole + 2 + k))) ∧ Aside (Below w'.heap.size w' wr))
  case atStart => exact ⟨places, Nat.le_refl _, Nat.le_refl _, by rw [Nat.sub_self]; rfl, by go_num, (by have e := Hn.out; rw [← e]; exact AR0), AB0⟩
  case round =>
    obtain ⟨k, hk, hgh, rfl, h15, AR, AB⟩ := hrel
    clear AR0 AB0
    cases k with
    | zero =>
      have e0 : ((0 : Nat) : Int) - 1 = -1 := by omega
      rw [e0] at h15
      subst h15
      have hcell := AR.out.cells (whole + 1) (by omega)
      have hfree := AR.out.free (whole + 1) (by omega)
      have hi2 : (whole : Int) + 1 < (n : Int) := by omega
      have A1 : Aside (Row (wr.setCell ⟨w'.heap.size, whole + 1, none⟩ (.int .u8 46)) w'.heap.size n (addw fA fB whole N (whole + 1))) := (AR.out.set (whole + 1) (by omega) 46).congr (fun j _ => addw_step (by unfold sm; rw [if_pos rfl]) j)
      have A2 : Aside (Below w'.heap.size w' (wr.setCell ⟨w'.heap.size, whole + 1, none⟩ (.int .u8 46))) := AB.out.setCell (p := ⟨w'.heap.size, whole + 1, none⟩) (Nat.le_refl _) _
      clear AR AB
      go_wp2_with fail
      go_loopg [14, 17] whole (fun gh s14 s17 wr => ∃ k : Nat, k ≤ whole ∧ whole - k ≤ gh ∧ s14 = .int .i64 (cy fA fB N (places + k) : Int) ∧ s17 = .int .i64 (k : Int) ∧ Aside (Row wr w'.heap.size n (addw fA fB whole N (whole + 1 - k))) ∧ Aside (Below w'.heap.size w' wr))
      case atStart => exact ⟨0, Nat.zero_le _, by omega, by rfl, by rfl, A1, A2⟩
      case round =>
        obtain ⟨k, hk2, hgh2, rfl, rfl, AR, AB⟩ := hrel
        clear A1 A2 hcell hfree
        by_cases hkw : k < whole
        · have hx1 := LA.out (whole - k)
          have hy1 := LB.out (whole - k)
          have hc1 := cy_le (N := N) LA.out LB.out (places + k)
          have HCY : Hid (cy fA fB N (places + (k + 1)) = (cy fA fB N (places + k) + fA (whole - k) + fB (whole - k)) / 10) := by
            show _ = _
            have h := cy_at fA fB N (whole - k) (by have := HN.out; omega)
            have e1 : N - (whole - k) = places + (k + 1) := by have := HN.out; omega
            have e2 : N - (whole - k + 1) = places + k := by have := HN.out; omega
            rwa [e1, e2] at h
          have HSM : Hid (sm fA fB whole N (whole - k) = 48 + (((cy fA fB N (places + k) + fA (whole - k) + fB (whole - k)) % 10 : Nat) : Int)) := by
            show _ = _
            unfold sm dg
            have e2 : N - (whole - k + 1) = places + k := by have := HN.out; omega
            rw [if_neg (by omega), if_pos (by omega), e2]
          have HQA : Hid (dAt Wa ((Wa.size : Int) - 1 - (k : Int)) = (fA (whole - k) : Int)) := by show _ = _; rw [HsWa.out]; exact QWA.out k hkw
          have HQB : Hid (dAt Wb ((Wb.size : Int) - 1 - (k : Int)) = (fB (whole - k) : Int)) := by show _ = _; rw [HsWb.out]; exact QWB.out k hkw
          have lWa : Wa.size ≤ 1048576 := by have := HsWa.out; omega
          have lWb : Wb.size ≤ 1048576 := by have := HsWb.out; omega
          generalize fA (whole - k) = x at *
          generalize fB (whole - k) = y at *
          generalize cy fA fB N (places + k) = c at *
          go_wp2_with fail
          refine (digitAt_any Wa _ _ lWa).mono ?_
          rintro e w3 ⟨rfl, rfl⟩
          rw [HQA.out]
          go_wp2_with fail
          refine (digitAt_any Wb _ _ lWb).mono ?_
          rintro e w4 ⟨rfl, rfl⟩
          rw [HQB.out]
          have hcell := AR.out.cells (whole - k) (by omega)
          have hfree := AR.out.free (whole - k) (by omega)
          have hi1 : (0 : Int) ≤ (whole : Int) - (k : Int) := by omega
          have hi2 : (whole : Int) - (k : Int) < (n : Int) := by omega
          by_cases hd : 10 ≤ c + x + y
          · skip
            go_wp2_with fail
            have A1 : Aside (Row (w4.setCell ⟨w'.heap.size, whole - k, none⟩ (.int .u8 (48 + ((c : Int) + (x : Int) + (y : Int) - 10)))) w'.heap.size n (addw fA fB whole N (whole + 1 - (k + 1)))) := (AR.out.set (whole - k) (by omega) (48 + ((c : Int) + (x : Int) + (y : Int) - 10))).congr (fun j _ => by
              have e1 : whole + 1 - k = whole - k + 1 := by omega
              have e2 : whole + 1 - (k + 1) = whole - k := by omega
              rw [e1, e2]
              exact addw_step (by rw [HSM.out]; omega) j)
            have A2 : Aside (Below w'.heap.size w' (w4.setCell ⟨w'.heap.size, whole - k, none⟩ (.int .u8 (48 + ((c : Int) + (x : Int) + (y : Int) - 10))))) := AB.out.setCell (p := ⟨w'.heap.size, whole - k, none⟩) (Nat.le_refl _) _
            go_roundg (whole - (k + 1))
            case measure => omega
            case rel => exact ⟨k + 1, by omega, Nat.le_refl _, by rw [HCY.out, show (c + x + y) / 10 = 1 by omega]; rfl, by go_num, A1, A2⟩
          · have hd' : (c : Int) + (x : Int) + (y : Int) < 10 := by omega
            go_wp2_with fail
            have A1 : Aside (Row (w4.setCell ⟨w'.heap.size, whole - k, none⟩ (.int .u8 (48 + ((c : Int) + (x : Int) + (y : Int))))) w'.heap.size n (addw fA fB whole N (whole + 1 - (k + 1)))) := (AR.out.set (whole - k) (by omega) (48 + ((c : Int) + (x : Int) + (y : Int)))).congr (fun j _ => by
              have e1 : whole + 1 - k = whole - k + 1 := by omega
              have e2 : whole + 1 - (k + 1) = whole - k := by omega
              rw [e1, e2]
              exact addw_step (by rw [HSM.out]; omega) j)
            have A2 : Aside (Below w'.heap.size w' (w4.setCell ⟨w'.heap.size, whole - k, none⟩ (.int .u8 (48 + ((c : Int) + (x : Int) + (y : Int)))))) := AB.out.setCell (p := ⟨w'.heap.size, whole - k, none⟩) (Nat.le_refl _) _
            go_roundg (whole - (k + 1))
            case measure => omega
            case rel => exact ⟨k + 1, by omega, Nat.le_refl _, by rw [HCY.out, show (c + x + y) / 10 = 0 by omega]; rfl, by go_num, A1, A2⟩
        · obtain rfl : k = whole := by omega
          have hc1 := cy_le (N := N) LA.out LB.out (places + k)
          have HSM : Hid (sm fA fB k N 0 = 48 + (cy fA fB N (places + k) : Int)) := by
            show _ = _
            unfold sm dg
            have e2 : N - (0 + 1) = places + k := by have := HN.out; omega
            rw [if_neg (by omega), if_pos (by omega), e2, A0.out, B0.out]
            omega
          generalize cy fA fB N (places + k) = c at *
          have hcell := AR.out.cells 0 (by omega)
          have hfree := AR.out.free 0 (by omega)
          have hi2 : (0 : Int) < (n : Int) := by omega
          have A1 : Row (wr.setCell ⟨w'.heap.size, 0, none⟩ (.int .u8 (48 + (c : Int)))) w'.heap.size n (sm fA fB k N) := (AR.out.set 0 (by omega) (48 + (c : Int))).congr (fun j _ => by
            have e1 : k + 1 - k = 0 + 1 := by omega
            rw [e1, addw_step (by rw [HSM.out]) j, addw_end])
          have A2 : Aside (Below w'.heap.size w' (wr.setCell ⟨w'.heap.size, 0, none⟩ (.int .u8 (48 + (c : Int))))) := AB.out.setCell (p := ⟨w'.heap.size, 0, none⟩) (Nat.le_refl _) _
          have hconv := run_string A1
          have hXs := strOf_size n (sm fA fB k N)
          obtain ⟨xd, xp, xv⟩ := HX.out (strOf n (sm fA fB k N)) hXs (fun j hj => strOf_bt n _ j (by omega) (sm_range _ _ _ _ _))
          have HXV := hide1 xv
          have hXs2 : (strOf n (sm fA fB k N)).size ≤ 1048576 := by omega
          clear xv hXs A1 AR AB
          generalize strOf n (sm fA fB k N) = X at *
          go_wp2_with fail
          go_ret
          exact ⟨⟨X, k + 1, rfl, hXs2, xd, xp, fun K k1 k2 => HXV.out K (by have := Hpl.out; omega)⟩, A2.out⟩
    | succ q =>
      have e0 : ((q + 1 : Nat) : Int) - 1 = (q : Int) := by omega
      rw [e0] at h15
      subst h15
      clear e0
      have hx1 := LA.out (whole + 1 + q)
      have hy1 := LB.out (whole + 1 + q)
      have hc1 := cy_le (N := N) LA.out LB.out (places - (q + 1))
      have HCY : Hid (cy fA fB N (places - q) = (cy fA fB N (places - (q + 1)) + fA (whole + 1 + q) + fB (whole + 1 + q)) / 10) := by
        show _ = _
        have h := cy_at fA fB N (whole + 1 + q) (by have := HN.out; omega)
        have e1 : N - (whole + 1 + q) = places - q := by have := HN.out; omega
        have e2 : N - (whole + 1 + q + 1) = places - (q + 1) := by have := HN.out; omega
        rwa [e1, e2] at h
      have HSM : Hid (sm fA fB whole N (whole + 2 + q) = 48 + (((cy fA fB N (places - (q + 1)) + fA (whole + 1 + q) + fB (whole + 1 + q)) % 10 : Nat) : Int)) := by
        show _ = _
        unfold sm dg
        have e1 : whole + 2 + q - 1 = whole + 1 + q := by omega
        have e2 : N - (whole + 1 + q + 1) = places - (q + 1) := by have := HN.out; omega
        rw [if_neg (by omega), if_neg (by omega), e1, e2]
      have hqa := QFA.out q
      have hqb := QFB.out q
      have HQA := hide1 hqa
      have HQB := hide1 hqb
      clear hqa hqb
      generalize fA (whole + 1 + q) = x at *
      generalize fB (whole + 1 + q) = y at *
      generalize cy fA fB N (places - (q + 1)) = c at *
      go_wp2_with fail
      refine (digitAt_any Fa q _ (by omega)).mono ?_
      rintro e w3 ⟨rfl, rfl⟩
      rw [HQA.out]
      go_wp2_with fail
      refine (digitAt_any Fb q _ (by omega)).mono ?_
      rintro e w4 ⟨rfl, rfl⟩
      rw [HQB.out]
      have hcell := AR.out.cells (whole + 2 + q) (by omega)
      have hfree := AR.out.free (whole + 2 + q) (by omega)
      have hi1 : (0 : Int) ≤ (whole : Int) + 2 + (q : Int) := by omega
      have hi2 : (whole : Int) + 2 + (q : Int) < (n : Int) := by omega
      by_cases hd : 10 ≤ c + x + y
      · skip
        go_wp2_with fail
        have A1 : Aside (Row (w4.setCell ⟨w'.heap.size, whole + 2 + q, none⟩ (.int .u8 (48 + ((c : Int) + (x : Int) + (y : Int) - 10)))) w'.heap.size n (addw fA fB whole N (whole + 2 + q))) := (AR.out.set (whole + 2 + q) (by omega) (48 + ((c : Int) + (x : Int) + (y : Int) - 10))).congr (fun j _ => addw_step (by rw [HSM.out]; omega) j)
        have A2 : Aside (Below w'.heap.size w' (w4.setCell ⟨w'.heap.size, whole + 2 + q, none⟩ (.int .u8 (48 + ((c : Int) + (x : Int) + (y : Int) - 10))))) := AB.out.setCell (p := ⟨w'.heap.size, whole + 2 + q, none⟩) (Nat.le_refl _) _
        go_roundg (q)
        case measure => omega
        case rel => exact ⟨q, by omega, Nat.le_refl _, by rw [HCY.out, show (c + x + y) / 10 = 1 by omega]; rfl, by rfl, A1, A2⟩
      · have hd' : (c : Int) + (x : Int) + (y : Int) < 10 := by omega
        go_wp2_with fail
        have A1 : Aside (Row (w4.setCell ⟨w'.heap.size, whole + 2 + q, none⟩ (.int .u8 (48 + ((c : Int) + (x : Int) + (y : Int))))) w'.heap.size n (addw fA fB whole N (whole + 2 + q))) := (AR.out.set (whole + 2 + q) (by omega) (48 + ((c : Int) + (x : Int) + (y : Int)))).congr (fun j _ => addw_step (by rw [HSM.out]; omega) j)
        have A2 : Aside (Below w'.heap.size w' (w4.setCell ⟨w'.heap.size, whole + 2 + q, none⟩ (.int .u8 (48 + ((c : Int) + (x : Int) + (y : Int)))))) := AB.out.setCell (p := ⟨w'.heap.size, whole + 2 + q, none⟩) (Nat.le_refl _) _
        go_roundg (q)
        case measure => omega
        case rel => exact ⟨q, by omega, Nat.le_refl _, by rw [HCY.out, show (c + x + y) / 10 = 0 by omega]; rfl, by rfl, A1, A2⟩

end Go.Proofs.Qxb6000559a.Num
