/-
  Seat b6000630a: the walk of zzb1LimModelMatch.
-/
import Derived.Test.Qxb6000630aMem
import Derived.Deep.DeepCutAuto
import Derived.Deep.CutBlock
namespace Go.Proofs.Qxb6000630a.Wild
open Go.RowKit

theorem eqAt_at0 (s p : ByteArray) (w : World) (hs : s.size ≤ 1048576) (hp : p.size ≤ 1048576) :
    Calls Try.prog 25 #[.string s, .int .i64 0, .string p] w fun e w' => e = .returned (.bool (eqAt (dl s) 0 (dl p))) ∧ ∃ n, w' = w.drewN n := eqAt_any s p 0 w hs hp (by omega)

theorem set_made (w : World) (N k : Nat) (hk : k < N) : BRow ((w.alloc (.cells (madeCells #[.bool false] N) 4)).setCell ⟨w.heap.size, k, none⟩ (.bool true)) w.heap.size N (fun x => x == k) :=
  ((brow_made w N).set k hk true).congr (fun j _ => by by_cases h : j = k <;> simp [h])

/-- the world in which the loops begin -/
theorem start_rows (w : World) (q0 N k : Nat) (hk : k < N) :
    BRow ((((w.drewN q0).alloc (.cells (madeCells #[.bool false] N) 4)).setCell ⟨w.heap.size, k, none⟩ (.bool true)).alloc (.cells (madeCells #[.bool false] N) 4)) w.heap.size N (fun x => x == k) ∧
    BRow ((((w.drewN q0).alloc (.cells (madeCells #[.bool false] N) 4)).setCell ⟨w.heap.size, k, none⟩ (.bool true)).alloc (.cells (madeCells #[.bool false] N) 4)) (w.heap.size + 1) N (fun _ => false) ∧
    Below w.heap.size w ((((w.drewN q0).alloc (.cells (madeCells #[.bool false] N) 4)).setCell ⟨w.heap.size, k, none⟩ (.bool true)).alloc (.cells (madeCells #[.bool false] N) 4)) := by
  have h1 : BRow (((w.drewN q0).alloc (.cells (madeCells #[.bool false] N) 4)).setCell ⟨w.heap.size, k, none⟩ (.bool true)) w.heap.size N (fun x => x == k) := set_made (w.drewN q0) N k hk
  have hB : Below w.heap.size w (((w.drewN q0).alloc (.cells (madeCells #[.bool false] N) 4)).setCell ⟨w.heap.size, k, none⟩ (.bool true)) :=
    ((below_drewN (Below.refl _ w) q0).alloc (Nat.le_refl _) _).setCell (p := ⟨w.heap.size, k, none⟩) (Nat.le_refl _) _
  have hz : (((w.drewN q0).alloc (.cells (madeCells #[.bool false] N) 4)).setCell ⟨w.heap.size, k, none⟩ (.bool true)).heap.size = w.heap.size + 1 := by simp [World.setCell]
  generalize ((w.drewN q0).alloc (.cells (madeCells #[.bool false] N) 4)).setCell ⟨w.heap.size, k, none⟩ (.bool true) = W at *
  have h2 := brow_made W N
  rw [hz] at h2
  exact ⟨h1.below ((Below.refl (w.heap.size + 1) W).alloc (by omega) _) (by omega), h2, hB.alloc (by omega) _⟩

set_option maxRecDepth 100000 in
set_option maxHeartbeats 4000000 in
theorem model_any (h n c : Nat) (P : Nat → ByteArray) (s : ByteArray) (w : World) (hn : 2 ≤ n) (hn2 : n ≤ 1048576) (hs : s.size ≤ 1048576) (hl : ∀ j, j < n → (P j).size ≤ 1048576)
    (r : StrRow w h n P) :
    Calls Try.prog 10 #[.slice (some ⟨h, 0, none⟩) n c, .string s] w fun e w' => e = .returned (.bool (modelB (dl s) (parts P) n)) ∧ Below w.heap.size w w' := by
  have HR := hide1 r
  have HL := hide1 hl
  have c0 := r 0 (by omega)
  have c1 := r (n - 1) (by omega)
  have hh : h < w.heap.size := World.block_lt_of_cell? w ⟨h, 0, none⟩ c0
  have l0 := hl 0 (by omega)
  have l1 := hl (n - 1) (by omega)
  have i1 : (0 : Int) ≤ (n : Int) - 1 := by omega
  have i2 : (n : Int) - 1 < (n : Int) := by omega
  have i3 : (0 : Int) < (n : Int) := by omega
  clear r hl
  have HM : Hid (modelB (dl s) (parts P) n = (eqAt (dl s) 0 (dl (P 0)) && (decide ((P (n - 1)).size ≤ s.size) && (eqAt (dl s) (s.size - (P (n - 1)).size) (dl (P (n - 1))) && seen (reach (dl s) (parts P) (n - 2)) (s.size - (P (n - 1)).size))))) := by
    show _ = _
    unfold modelB parts
    rw [dl_len, dl_len]
  have HR0 : Hid (∀ x, (x == (P 0).size) = reach (dl s) (parts P) 0 x) := fun x => by
    show _ = (x == (parts P 0).length)
    unfold parts; rw [dl_len]
  generalize P 0 = F at *
  generalize P (n - 1) = Z at *
  cases he : eqAt (dl s) 0 (dl F)
  · have HF : Hid (modelB (dl s) (parts P) n = false) := by show _ = _; rw [HM.out, he]; rfl
    clear HM
    go_enter Try.func10, Try.ntmps10
    go_wp2_with fail
    refine (eqAt_at0 s F _ hs l0).mono ?_
    rintro e w1 ⟨rfl, q0, rfl⟩
    rw [he]
    go_wp2_with fail
    go_ret
    exact ⟨ret_bool HF.out.symm, below_drewN (Below.refl _ _) q0⟩
  have hFs : F.size ≤ s.size := by have := ((eqAt_iff _ _ _).1 he).1; rw [dl_len, dl_len] at this; omega
  have HM2 : Hid (modelB (dl s) (parts P) n = (decide (Z.size ≤ s.size) && (eqAt (dl s) (s.size - Z.size) (dl Z) && seen (reach (dl s) (parts P) (n - 2)) (s.size - Z.size)))) := by show _ = _; rw [HM.out, he]; rfl
  clear HM
  have hmk : ∀ W, (Instr.makeSlice 45 (.int .i64 ((s.size : Int) + 1)) (.int .i64 ((s.size : Int) + 1))).run Try.prog W = .ok (.slice (some ⟨W.heap.size, 0, none⟩) (s.size + 1) (s.size + 1)) (W.alloc (.cells (madeCells #[.bool false] (s.size + 1)) 4)) := fun W => mkb (s.size + 1) (by omega) W
  go_enter Try.func10, Try.ntmps10
  go_wp2_with fail
  refine (eqAt_at0 s F _ hs l0).mono ?_
  rintro e w1 ⟨rfl, q0, rfl⟩
  rw [he]
  have RA : BRow ((w.drewN q0).alloc (.cells (madeCells #[.bool false] (s.size + 1)) 4)) w.heap.size (s.size + 1) (fun _ => false) := brow_made (w.drewN q0) (s.size + 1)
  have hcA := RA.cells F.size (by omega)
  have hfA := RA.free F.size (by omega)
  have hi4 : (F.size : Int) < (s.size : Int) + 1 := by omega
  clear RA
  obtain ⟨SR1, SR2, SB⟩ := start_rows w q0 (s.size + 1) F.size (by omega)
  have AR0 : Aside _ := SR1.congr (fun x _ => HR0.out x)
  have BR0 : Aside _ := SR2
  have AB0 : Aside _ := SB
  clear SR1 SR2 SB
  go_wp2_with fail
  go_loopg [8, 9, 10] n (fun gh s8 s9 s10 wr => ∃ (j hA hB : Nat) (g : Nat → Bool), 1 ≤ j ∧ j ≤ n - 1 ∧ n - j ≤ gh ∧ s10 = .int .i64 (j : Int) ∧ s8 = .slice (some ⟨hA, 0, none⟩) (s.size + 1) (s.size + 1) ∧ s9 = .slice (some ⟨hB, 0, none⟩) (s.size + 1) (s.size + 1) ∧ ¬ hA = hB ∧ w.heap.size ≤ hA ∧ w.heap.size ≤ hB ∧
      Aside (BRow wr hA (s.size + 1) (reach (dl s) (parts P) (j - 1))) ∧ Aside (BRow wr hB (s.size + 1) g) ∧ Aside (Below w.heap.size w wr))
  case atStart => exact ⟨1, w.heap.size, w.heap.size + 1, _, Nat.le_refl _, by omega, by omega, rfl, rfl, rfl, by omega, Nat.le_refl _, by omega, AR0, BR0, AB0⟩
  case round =>
    clear AR0 BR0 AB0 hcA hfA hmk
    obtain ⟨j, hA, hB, g, hj1, hj2, hgh, rfl, rfl, rfl, hne, hgA, hgB, AR, BR, AB⟩ := hrel
    by_cases hlt : j < n - 1
    · have hck : wr.cell? ⟨h, j, none⟩ = some (.string (P j)) := by rw [AB.out.cell (p := ⟨h, j, none⟩) hh]; exact HR.out j (by omega)
      have hlk := HL.out j (by omega)
      have hj3 : (j : Int) < (n : Int) - 1 := by omega
      have hj4 : (0 : Int) ≤ (j : Int) := by omega
      have hj5 : (j : Int) < (n : Int) := by omega
      have HPJ : Hid (reach (dl s) (parts P) j = step (dl s) (reach (dl s) (parts P) (j - 1)) (dl (P j))) := by
        show _ = _
        have e : j = (j - 1) + 1 := by omega
        rw [e, reach, ← e]; rfl
      obtain ⟨wo, rfl⟩ : ∃ wo : World, wo = wr := ⟨_, rfl⟩
      generalize reach (dl s) (parts P) (j - 1) = R at *
      generalize P j = D at *
      go_wp2_with fail
      go_loopg [12] (s.size + 1) (fun gh2 s12 w2 => ∃ q : Nat, q ≤ s.size + 1 ∧ s.size + 1 - q ≤ gh2 ∧ s12 = .int .i64 (q : Int) ∧ Aside (BRow w2 hA (s.size + 1) R) ∧ Aside (BRow w2 hB (s.size + 1) (clr g q)) ∧ Aside (Below w.heap.size w w2))
      case atStart => exact ⟨0, Nat.zero_le _, by omega, rfl, AR, BR.out.congr (fun x _ => clr_zero g x), AB⟩
      case round =>
        clear AR BR AB
        obtain ⟨q, hq1, hq2, rfl, AR, BR, AB⟩ := hrel
        by_cases hq : q < s.size + 1
        · have hcc := BR.out.cells q hq
          have hff := BR.out.free q hq
          have hq3 : (q : Int) ≤ (s.size : Int) := by omega
          have hq4 : (q : Int) < (s.size : Int) + 1 := by omega
          have hq5 : (0 : Int) ≤ (q : Int) := by omega
          have A1 : Aside (BRow (wr.setCell ⟨hB, q, none⟩ (.bool false)) hB (s.size + 1) (clr g (q + 1))) := (BR.out.set q hq false).congr (fun x _ => clr_step g q x)
          have A2 : Aside (BRow (wr.setCell ⟨hB, q, none⟩ (.bool false)) hA (s.size + 1) R) := AR.out.other hne _
          have A3 : Aside (Below w.heap.size w (wr.setCell ⟨hB, q, none⟩ (.bool false))) := AB.out.setCell (p := ⟨hB, q, none⟩) hgB _
          clear AR BR AB
          go_wp2_with fail
          go_roundg (s.size + 1 - (q + 1))
          case measure => omega
          case rel => exact ⟨q + 1, by omega, Nat.le_refl _, by go_num, A2, A1, A3⟩
        · obtain rfl : q = s.size + 1 := by omega
          have hq3 : ¬ ((s.size + 1 : Nat) : Int) ≤ (s.size : Int) := by omega
          have B1 : Aside (BRow wr hB (s.size + 1) (nx (dl s) R (dl D) 0)) := BR.out.congr (fun x hx => nx_zero (dl s) R (dl D) g (s.size + 1) x hx)
          clear BR
          go_wp2_with fail
          obtain ⟨wo2, rfl⟩ : ∃ wo2 : World, wo2 = wr := ⟨_, rfl⟩
          go_loopg [13, 14] (s.size + 1) (fun gh3 s13 s14 w3 => ∃ q : Nat, q ≤ s.size + 1 ∧ s.size + 1 - q ≤ gh3 ∧ s13 = .bool (sb R q) ∧ s14 = .int .i64 (q : Int) ∧ Aside (BRow w3 hA (s.size + 1) R) ∧ Aside (BRow w3 hB (s.size + 1) (nx (dl s) R (dl D) q)) ∧ Aside (Below w.heap.size w w3))
          case atStart => exact ⟨0, Nat.zero_le _, by omega, rfl, rfl, AR, B1, AB⟩
          case round =>
            clear AR B1 AB
            obtain ⟨q, hq1, hq2, rfl, rfl, AR, BR, AB⟩ := hrel
            by_cases hq : q < s.size + 1
            · have hcR := AR.out.cells q hq
              have hq3 : (q : Int) ≤ (s.size : Int) := by omega
              have hq4 : (q : Int) < (s.size : Int) + 1 := by omega
              have hq5 : (0 : Int) ≤ (q : Int) := by omega
              cases hR : R q
              · rw [hR] at hcR
                cases hsb : sb R q
                · have hsn : seen R q = false := by have := sb_succ R q; rw [hsb, hR] at this; exact this
                  have HN := hide1 (fun x => nx_same (S := dl s) (R := R) (part := dl D) (q := q) (by rw [hsn]; rfl) x)
                  have HS : Hid (sb R (q + 1) = false) := hsn
                  clear hsn
                  have A1 : Aside (BRow wr hB (s.size + 1) (nx (dl s) R (dl D) (q + 1))) := BR.out.congr (fun x _ => HN.out x)
                  clear BR
                  go_wp2_with fail
                  go_roundg (s.size + 1 - (q + 1))
                  case measure => omega
                  case rel => exact ⟨q + 1, by omega, Nat.le_refl _, by rw [HS.out], by go_num, AR, A1, AB⟩
                · skip
                  have hsn : seen R q = true := by have := sb_succ R q; rw [hsb, hR] at this; exact this
                  cases heq : eqAt (dl s) q (dl D)
                  · have HN := hide1 (fun x => nx_same (S := dl s) (R := R) (part := dl D) (q := q) (by rw [hsn, heq]; rfl) x)
                    have HS : Hid (sb R (q + 1) = true) := hsn
                    clear hsn
                    go_wp2_with fail
                    refine (eqAt_any s D q _ hs hlk (by omega)).mono ?_
                    rintro e w4 ⟨rfl, q', rfl⟩
                    rw [heq]
                    clear heq
                    have A1 : Aside (BRow (wr.drewN q') hB (s.size + 1) (nx (dl s) R (dl D) (q + 1))) := (BR.out.drewN q').congr (fun x _ => HN.out x)
                    have A2 : Aside (BRow (wr.drewN q') hA (s.size + 1) R) := AR.out.drewN q'
                    have A3 : Aside (Below w.heap.size w (wr.drewN q')) := below_drewN AB.out q'
                    clear AR BR AB
                    go_wp2_with fail
                    go_roundg (s.size + 1 - (q + 1))
                    case measure => omega
                    case rel => exact ⟨q + 1, by omega, Nat.le_refl _, by rw [HS.out], by go_num, A2, A1, A3⟩
                  · have HN := hide1 (fun x => nx_set (S := dl s) (R := R) (part := dl D) (q := q) hsn heq x)
                    have hfit : q + D.size ≤ s.size := by have := ((eqAt_iff _ _ _).1 heq).1; rw [dl_len, dl_len] at this; exact this
                    have HS : Hid (sb R (q + 1) = true) := hsn
                    have hk1 : (q : Int) + (D.size : Int) < (s.size : Int) + 1 := by omega
                    have hk2 : (0 : Int) ≤ (q : Int) + (D.size : Int) := by omega
                    have hcc := BR.out.cells (q + D.size) (by omega)
                    have hff := BR.out.free (q + D.size) (by omega)
                    clear hsn
                    go_wp2_with fail
                    refine (eqAt_any s D q _ hs hlk (by omega)).mono ?_
                    rintro e w4 ⟨rfl, q', rfl⟩
                    rw [heq]
                    clear heq
                    have A1 : Aside (BRow ((wr.drewN q').setCell ⟨hB, q + D.size, none⟩ (.bool true)) hB (s.size + 1) (nx (dl s) R (dl D) (q + 1))) := ((BR.out.drewN q').set (q + D.size) (by omega) true).congr (fun x _ => by have h := HN.out x; rw [dl_len] at h; exact h)
                    have A2 : Aside (BRow ((wr.drewN q').setCell ⟨hB, q + D.size, none⟩ (.bool true)) hA (s.size + 1) R) := (AR.out.drewN q').other hne _
                    have A3 : Aside (Below w.heap.size w ((wr.drewN q').setCell ⟨hB, q + D.size, none⟩ (.bool true))) := (below_drewN AB.out q').setCell (p := ⟨hB, q + D.size, none⟩) hgB _
                    clear AR BR AB
                    go_wp2_with fail
                    go_roundg (s.size + 1 - (q + 1))
                    case measure => omega
                    case rel => exact ⟨q + 1, by omega, Nat.le_refl _, by rw [HS.out], by go_num, A2, A1, A3⟩
              · rw [hR] at hcR
                have hsn : seen R q = true := by have := sb_succ R q; rw [hR, Bool.or_true] at this; exact this
                cases heq : eqAt (dl s) q (dl D)
                · have HN := hide1 (fun x => nx_same (S := dl s) (R := R) (part := dl D) (q := q) (by rw [hsn, heq]; rfl) x)
                  have HS : Hid (sb R (q + 1) = true) := hsn
                  clear hsn
                  go_wp2_with fail
                  refine (eqAt_any s D q _ hs hlk (by omega)).mono ?_
                  rintro e w4 ⟨rfl, q', rfl⟩
                  rw [heq]
                  clear heq
                  have A1 : Aside (BRow (wr.drewN q') hB (s.size + 1) (nx (dl s) R (dl D) (q + 1))) := (BR.out.drewN q').congr (fun x _ => HN.out x)
                  have A2 : Aside (BRow (wr.drewN q') hA (s.size + 1) R) := AR.out.drewN q'
                  have A3 : Aside (Below w.heap.size w (wr.drewN q')) := below_drewN AB.out q'
                  clear AR BR AB
                  go_wp2_with fail
                  go_roundg (s.size + 1 - (q + 1))
                  case measure => omega
                  case rel => exact ⟨q + 1, by omega, Nat.le_refl _, by rw [HS.out], by go_num, A2, A1, A3⟩
                · have HN := hide1 (fun x => nx_set (S := dl s) (R := R) (part := dl D) (q := q) hsn heq x)
                  have hfit : q + D.size ≤ s.size := by have := ((eqAt_iff _ _ _).1 heq).1; rw [dl_len, dl_len] at this; exact this
                  have HS : Hid (sb R (q + 1) = true) := hsn
                  have hk1 : (q : Int) + (D.size : Int) < (s.size : Int) + 1 := by omega
                  have hk2 : (0 : Int) ≤ (q : Int) + (D.size : Int) := by omega
                  have hcc := BR.out.cells (q + D.size) (by omega)
                  have hff := BR.out.free (q + D.size) (by omega)
                  clear hsn
                  go_wp2_with fail
                  refine (eqAt_any s D q _ hs hlk (by omega)).mono ?_
                  rintro e w4 ⟨rfl, q', rfl⟩
                  rw [heq]
                  clear heq
                  have A1 : Aside (BRow ((wr.drewN q').setCell ⟨hB, q + D.size, none⟩ (.bool true)) hB (s.size + 1) (nx (dl s) R (dl D) (q + 1))) := ((BR.out.drewN q').set (q + D.size) (by omega) true).congr (fun x _ => by have h := HN.out x; rw [dl_len] at h; exact h)
                  have A2 : Aside (BRow ((wr.drewN q').setCell ⟨hB, q + D.size, none⟩ (.bool true)) hA (s.size + 1) R) := (AR.out.drewN q').other hne _
                  have A3 : Aside (Below w.heap.size w ((wr.drewN q').setCell ⟨hB, q + D.size, none⟩ (.bool true))) := (below_drewN AB.out q').setCell (p := ⟨hB, q + D.size, none⟩) hgB _
                  clear AR BR AB
                  go_wp2_with fail
                  go_roundg (s.size + 1 - (q + 1))
                  case measure => omega
                  case rel => exact ⟨q + 1, by omega, Nat.le_refl _, by rw [HS.out], by go_num, A2, A1, A3⟩
            · obtain rfl : q = s.size + 1 := by omega
              have hq3 : ¬ ((s.size + 1 : Nat) : Int) ≤ (s.size : Int) := by omega
              have A1 : Aside (BRow wr hB (s.size + 1) (reach (dl s) (parts P) (j + 1 - 1))) := BR.out.congr (fun x hx => by
                rw [Nat.add_sub_cancel, HPJ.out]; exact nx_end (dl s) R (dl D) (s.size + 1) x hx)
              clear BR
              go_wp2_with fail
              go_roundg (n - (j + 1))
              case measure => omega
              case rel => exact ⟨j + 1, hB, hA, _, by omega, by omega, Nat.le_refl _, by go_num, rfl, rfl, by omega, hgB, hgA, A1, AR, AB⟩
    · have ej : j - 1 = n - 2 := by omega
      have AR2 : Aside (BRow wr hA (s.size + 1) (reach (dl s) (parts P) (n - 2))) := by rw [← ej]; exact AR
      have hj3 : ¬ (j : Int) < (n : Int) - 1 := by omega
      clear AR BR ej
      generalize reach (dl s) (parts P) (n - 2) = R at *
      by_cases hZ : Z.size ≤ s.size
      · obtain ⟨st, hst⟩ : ∃ st, s.size - Z.size = st := ⟨_, rfl⟩
        rw [hst] at HM2
        have est : (s.size : Int) - (Z.size : Int) = (st : Int) := by omega
        have hst2 : st ≤ s.size := by omega
        have hd0 : decide ((st : Int) < 0) = false := by simp
        clear hst
        cases heq : eqAt (dl s) st (dl Z)
        · have HF : Hid (modelB (dl s) (parts P) n = false) := by show _ = _; rw [HM2.out, heq]; simp
          go_wp2_with fail
          refine (eqAt_any s Z st _ hs l1 (by omega)).mono ?_
          rintro e w4 ⟨rfl, q', rfl⟩
          rw [heq]
          go_wp2_with fail
          go_ret
          exact ⟨ret_bool HF.out.symm, below_drewN AB.out q'⟩
        · have HF : Hid (modelB (dl s) (parts P) n = seen R st) := by show _ = _; rw [HM2.out, heq, decide_eq_true hZ]; simp
          go_wp2_with fail
          refine (eqAt_any s Z st _ hs l1 (by omega)).mono ?_
          rintro e w4 ⟨rfl, q', rfl⟩
          rw [heq]
          go_wp2_with fail
          go_loop [17] (fun s17 => ∃ p : Nat, p ≤ st + 1 ∧ s17 = .int .i64 (p : Int) ∧ Hid (∀ x, x < p → R x = false)) (fun s17 => st + 1 - (intOf s17).toNat)
          case atStart => exact ⟨0, Nat.zero_le _, rfl, fun x hx => absurd hx (Nat.not_lt_zero _)⟩
          case round =>
            obtain ⟨p, hp, rfl, hh⟩ := hrel
            by_cases hps : p ≤ st
            · have hcR := AR2.out.cells p (by omega)
              have hp1 : (p : Int) ≤ (st : Int) := by omega
              have hp2 : (p : Int) < (s.size : Int) + 1 := by omega
              have hp3 : (0 : Int) ≤ (p : Int) := by omega
              cases hR : R p
              · rw [hR] at hcR
                have HC := hide1 hR
                clear hR
                go_wp2_with fail
                go_round
                case rel => exact ⟨p + 1, by omega, by go_num, upto hh.out HC.out⟩
                case measure => simp [intOf]; omega
              · rw [hR] at hcR
                have HT : Hid (modelB (dl s) (parts P) n = true) := by show _ = _; rw [HF.out, seen_iff]; exact ⟨p, hps, hR⟩
                clear hR
                go_wp2_with fail
                go_ret
                exact ⟨ret_bool HT.out.symm, below_drewN AB.out q'⟩
            · have hp1 : ¬ (p : Int) ≤ (st : Int) := by omega
              have HT : Hid (modelB (dl s) (parts P) n = false) := by
                show _ = _
                rw [HF.out, Bool.eq_false_iff]
                intro hx
                obtain ⟨x, h1, h2⟩ := (seen_iff _ _).1 hx
                rw [hh.out x (by omega)] at h2
                exact absurd h2 (by simp)
              go_wp2_with fail
              go_ret
              exact ⟨ret_bool HT.out.symm, below_drewN AB.out q'⟩
      · have HF : Hid (modelB (dl s) (parts P) n = false) := by show _ = _; rw [HM2.out, decide_eq_false hZ]; rfl
        have hd0 : (s.size : Int) - (Z.size : Int) < 0 := by omega
        go_wp2_with fail
        go_ret
        exact ⟨ret_bool HF.out.symm, AB.out⟩

end Go.Proofs.Qxb6000630a.Wild
