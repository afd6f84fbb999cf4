/-
  Seat b6000630a: the walk of (wildcard).match.
-/
import Derived.Test.Qxb6000630aWalksA
import Derived.Test.Qxb6000630aShelf
namespace Go.Proofs.Qxb6000630a.Wild
open Go.RowKit

/-- a row of strings -/
def StrRow (w : World) (h n : Nat) (P : Nat → ByteArray) : Prop := ∀ j, j < n → w.cell? ⟨h, j, none⟩ = some (.string (P j))

/-- the parts as lists -/
def parts (P : Nat → ByteArray) (j : Nat) : List UInt8 := dl (P j)

theorem size_ext (s : ByteArray) (a b : Nat) (h1 : a ≤ b) (h2 : b ≤ s.size) : (s.extract a b).size = b - a := by
  rw [ByteArray.size_extract]; omega

theorem dl_ext (s : ByteArray) (a b : Nat) : dl (s.extract a b) = ((dl s).drop a).take (b - a) := Lib.extract_data s a b

theorem eq_of_dl {a b : ByteArray} (h : dl a = dl b) : a = b := by
  rw [← Lib.mk_data a, ← Lib.mk_data b]
  unfold dl at h; rw [h]

theorem ext_ext (s : ByteArray) (p st a : Nat) (h1 : p ≤ st) (h2 : st ≤ s.size) : (s.extract p st).extract a (s.extract p st).size = s.extract (p + a) st := by
  apply eq_of_dl
  rw [dl_ext, dl_ext, dl_ext, size_ext s p st h1 h2, List.drop_take, List.drop_drop, List.take_take]
  congr 1
  omega

/-- one step of the greedy search -/
theorem step_miss {S : List UInt8} {L : Nat → List UInt8} {start k p : Nat} (hg : gpos S L start k = some p) (hi : Lib.index ((S.drop p).take (start - p)) (L (k + 1)) = -1) (n : Nat) (hn : k + 1 ≤ n) : gpos S L start n = none := by
  have h : gpos S L start (k + 1) = none := by rw [gpos, hg]; simp only []; rw [hi, if_pos (by omega)]
  have := gpos_none h (n - (k + 1))
  rwa [show k + 1 + (n - (k + 1)) = n by omega] at this

theorem step_hit {S : List UInt8} {L : Nat → List UInt8} {start k p i : Nat} (hg : gpos S L start k = some p) (hi : Lib.index ((S.drop p).take (start - p)) (L (k + 1)) = (i : Int)) : gpos S L start (k + 1) = some (p + i + (L (k + 1)).length) := by
  rw [gpos, hg]; simp only []; rw [hi, if_neg (by omega)]; simp

set_option maxRecDepth 100000 in
set_option maxHeartbeats 2000000 in
theorem match_any (h n c : Nat) (P : Nat → ByteArray) (s : ByteArray) (m : Int) (w : World) (hn : 2 ≤ n) (hn2 : n ≤ 1048576) (hc : n ≤ c) (hs : s.size ≤ 1048576) (hl : ∀ j, j < n → (P j).size ≤ 1048576)
    (r : StrRow w h n P) (hm : w.cell? ⟨0, 0, none⟩ = some (.int .i64 m)) :
    Calls Try.prog 24 #[.slice (some ⟨h, 0, none⟩) n c, .string s] w fun e w' => e = .returned (.bool (matchB (dl s) (parts P) n)) ∧ ∃ q, w' = w.drewN q := by
  have HR := hide1 r
  have HL := hide1 hl
  have c0 := r 0 (by omega)
  have c1 := r (n - 1) (by omega)
  have l0 := hl 0 (by omega)
  have l1 := hl (n - 1) (by omega)
  have i1 : (0 : Int) ≤ (n : Int) - 1 := by omega
  have i2 : (n : Int) - 1 < (n : Int) := by omega
  have i3 : (0 : Int) < (n : Int) := by omega
  clear r hl
  by_cases h1 : (P 0).size + (P (n - 1)).size ≤ s.size
  · have h1' : decide ((s.size : Int) < ((P 0).size : Int) + ((P (n - 1)).size : Int)) = false := by simp; omega
    have HM : Hid (matchB (dl s) (parts P) n = (Lib.hasPrefix s.data.toList (P 0).data.toList && (Lib.hasSuffix s.data.toList (P (n - 1)).data.toList && (gpos (dl s) (parts P) (s.size - (P (n - 1)).size) (n - 2)).isSome))) := by
      show _ = _
      unfold matchB parts
      rw [dl_len, dl_len, dl_len, decide_eq_true h1]
      simp [dl]
    have HG0 : Hid (gpos (dl s) (parts P) (s.size - (P (n - 1)).size) 0 = some (P 0).size) := by
      show some _ = _
      unfold parts; rw [dl_len]
    generalize P 0 = F at *
    generalize P (n - 1) = Z at *
    cases hp : Lib.hasPrefix s.data.toList F.data.toList
    · have HF : Hid (matchB (dl s) (parts P) n = false) := by show _ = _; rw [HM.out, hp]; rfl
      clear HM
      go_enter Try.func24, Try.ntmps24
      go_wp2_with fail
      go_quiet (fail)
      go_wp2_with fail
      refine (Try.strings_HasPrefix s F _).mono ?_
      rintro e w1 ⟨rfl, rfl⟩
      rw [hp]
      go_wp2_with fail
      go_ret
      exact ⟨ret_bool HF.out.symm, _, rfl⟩
    cases hq : Lib.hasSuffix s.data.toList Z.data.toList
    · have HF : Hid (matchB (dl s) (parts P) n = false) := by show _ = _; rw [HM.out, hp, hq]; rfl
      clear HM
      go_enter Try.func24, Try.ntmps24
      go_wp2_with fail
      go_quiet (fail)
      go_wp2_with fail
      refine (Try.strings_HasPrefix s F _).mono ?_
      rintro e w1 ⟨rfl, rfl⟩
      rw [hp]
      go_wp2_with fail
      refine (Try.strings_HasSuffix s Z _ (by omega)).mono ?_
      rintro e w1 ⟨rfl, rfl⟩
      rw [hq]
      go_wp2_with fail
      go_ret
      exact ⟨ret_bool HF.out.symm, _, rfl⟩
    have HG : Hid (matchB (dl s) (parts P) n = (gpos (dl s) (parts P) (s.size - Z.size) (n - 2)).isSome) := by show _ = _; rw [HM.out, hp, hq]; simp
    clear HM
    obtain ⟨st, hst⟩ : ∃ st, s.size - Z.size = st := ⟨_, rfl⟩
    rw [hst] at HG HG0
    have hst1 : F.size ≤ st := by omega
    have hst2 : st ≤ s.size := by omega
    have HX : Hid (s.extract F.size (s.size - Z.size) = s.extract F.size st) := by show _ = _; rw [hst]
    have HST := hide1 hst
    have j1 : (F.size : Int) ≤ (s.size : Int) - (Z.size : Int) := by omega
    have j2 : (s.size : Int) - (Z.size : Int) ≤ (s.size : Int) := by omega
    have j3 : (1 : Int) ≤ (n : Int) - 1 := by omega
    have j4 : (n : Int) - 1 ≤ (c : Int) := by omega
    clear hst
    go_enter Try.func24, Try.ntmps24
    go_wp2_with fail
    go_quiet (fail)
    go_wp2_with fail
    refine (Try.strings_HasPrefix s F _).mono ?_
    rintro e w1 ⟨rfl, rfl⟩
    rw [hp]
    go_wp2_with fail
    refine (Try.strings_HasSuffix s Z _ (by omega)).mono ?_
    rintro e w1 ⟨rfl, rfl⟩
    rw [hq]
    go_wp2_with fail
    go_loop [54, 1] (fun s54 s1 => ∃ (k pos : Nat) (X : ByteArray), k ≤ n - 2 ∧ pos ≤ st ∧ s54 = .int .i64 k ∧ s1 = .string X ∧ Hid (gpos (dl s) (parts P) st k = some pos) ∧ Hid (X = s.extract pos st)) (fun s54 _ => n - (intOf s54).toNat)
    case atStart => exact ⟨0, F.size, _, Nat.zero_le _, hst1, rfl, rfl, HG0, HX⟩
    case round =>
      obtain ⟨k, pos, X, hk, hps, rfl, rfl, hg, hX⟩ := hrel
      have hXs : X.size ≤ 1048576 := by rw [hX.out, size_ext s pos st hps hst2]; omega
      by_cases hlt : k < n - 2
      · have hck := HR.out (1 + k) (by omega)
        have hlk := HL.out (1 + k) (by omega)
        have HI : Hid (Lib.index X.data.toList (P (1 + k)).data.toList = Lib.index (((dl s).drop pos).take (st - pos)) (parts P (k + 1))) := by
          show _ = _
          have e1 : X.data.toList = ((dl s).drop pos).take (st - pos) := by rw [hX.out]; exact dl_ext s pos st
          have e2 : (P (1 + k)).data.toList = parts P (k + 1) := by rw [Nat.add_comm 1 k]; rfl
          rw [e1, e2]
        have hk1 : (k : Int) < (n : Int) - 1 - 1 := by omega
        have hk0 : (0 : Int) ≤ (k : Int) := by omega
        go_wp2_with fail
        refine (Try.strings_Index X (P (1 + k)) m (w.drewN nq) (by omega) hm).mono ?_
        rintro e w1 ⟨rfl, rfl⟩
        rw [HI.out]
        rcases Lib.index_spec (((dl s).drop pos).take (st - pos)) (parts P (k + 1)) with ⟨hi, _⟩ | ⟨i, hi, hil, ho, _⟩
        · have HF : Hid (matchB (dl s) (parts P) n = false) := by show _ = _; rw [HG.out, step_miss hg.out hi (n - 2) (by omega)]; rfl
          rw [hi]
          clear hi
          go_wp2_with fail
          go_ret
          exact ⟨ret_bool HF.out.symm, _, rfl⟩
        · have HG2 := hide1 (step_hit hg.out hi)
          have hlen : (((dl s).drop pos).take (st - pos)).length = st - pos := by rw [List.length_take, List.length_drop, dl_len]; omega
          rw [hlen] at hil
          obtain ⟨h5, _⟩ := (occ_mid (dl s) (parts P (k + 1)) pos st i hps (by rw [dl_len]; exact hst2) hil).1 ho
          have e2 : (parts P (k + 1)).length = (P (1 + k)).size := by rw [Nat.add_comm 1 k]; exact dl_len _
          rw [e2] at h5 HG2
          have HXX : Hid (X.extract (i + (P (1 + k)).size) X.size = s.extract (pos + (i + (P (1 + k)).size)) st) := by show _ = _; rw [hX.out]; exact ext_ext s pos st _ hps hst2
          have hXs2 : i + (P (1 + k)).size ≤ X.size := by rw [hX.out, size_ext s pos st hps hst2]; omega
          have hb1 : (0 : Int) ≤ (i : Int) + ((P (1 + k)).size : Int) := by omega
          have hb2 : (i : Int) + ((P (1 + k)).size : Int) ≤ (X.size : Int) := by omega
          rw [hi]
          clear hi ho hil hlen e2
          go_wp2_with fail
          go_round
          case rel => exact ⟨k + 1, pos + (i + (P (1 + k)).size), _, by omega, by omega, by go_num, rfl, by rw [← Nat.add_assoc]; exact HG2, HXX⟩
          case measure => simp [intOf]; omega
      · have HF : Hid (matchB (dl s) (parts P) n = true) := by
          show _ = _
          rw [HG.out]
          have e : k = n - 2 := by omega
          rw [← e, hg.out]; rfl
        have hk1 : ¬ k < n - 1 - 1 := by omega
        go_wp2_with fail
        go_ret
        exact ⟨ret_bool HF.out.symm, _, rfl⟩
  · have HF : Hid (matchB (dl s) (parts P) n = false) := by
      show _ = _
      unfold matchB parts
      rw [dl_len, dl_len, dl_len, decide_eq_false h1]; simp
    go_enter Try.func24, Try.ntmps24
    go_wp2_with fail
    go_quiet (fail)
    go_wp2_with fail
    go_ret
    exact ⟨ret_bool HF.out.symm, _, rfl⟩

end Go.Proofs.Qxb6000630a.Wild
