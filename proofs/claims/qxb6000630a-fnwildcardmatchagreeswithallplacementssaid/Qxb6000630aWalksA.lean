/-
  Seat b6000630a: the walks of zzb1LimEqAt and of the bound on lengths.
-/
import Derived.Test.Qxb6000630aProg
import Derived.Test.Qxb6000630aPlain
import Derived.WalkKit
import Derived.WalkSpells
import Derived.WalkLawsBesides
import Derived.Deep.QuietTactic
import Derived.BigQuiet
import Derived.Deep.Draws
import Derived.Deep.LoopGhost
namespace Go.Proofs.Qxb6000630a.Wild
open Go.RowKit

theorem hide1 {p : Prop} (h : p) : Hid p := h
theorem ret_bool {a b : Bool} (h : a = b) : Ending.returned (.bool a) = .returned (.bool b) := by rw [h]

/-- the byte at place j as a number -/
def bt (s : ByteArray) (j : Nat) : Int := (((s.data.toList[j]?).getD 0).toNat : Int)
theorem bt_eq (s : ByteArray) (j : Nat) (h : j < s.size) : (s[j].toNat : Int) = bt s j := by
  unfold bt
  have h' : j < s.data.toList.length := by simpa using h
  rw [List.getElem?_eq_getElem h']
  rfl

def dl (s : ByteArray) : List UInt8 := s.data.toList
theorem dl_len (s : ByteArray) : (dl s).length = s.size := by simp [dl]

theorem eqAt_yes (s p : ByteArray) (q : Nat) (h : q + p.size ≤ s.size) (ha : ∀ j, j < p.size → bt s (q + j) = bt p j) : eqAt (dl s) q (dl p) = true := by
  rw [eqAt_iff, dl_len, dl_len]
  refine ⟨h, List.prefix_iff_eq_take.2 ?_⟩
  apply List.ext_getElem?
  intro j
  rw [dl_len, List.getElem?_take]
  by_cases hj : j < p.size
  · rw [if_pos hj, List.getElem?_drop]
    have h1 := ha j hj
    have hl : j < (dl p).length := by rw [dl_len]; exact hj
    have hl2 : q + j < (dl s).length := by rw [dl_len]; omega
    unfold bt at h1
    change (((dl s)[q + j]?.getD 0).toNat : Int) = (((dl p)[j]?.getD 0).toNat : Int) at h1
    rw [List.getElem?_eq_getElem hl, List.getElem?_eq_getElem hl2] at h1 ⊢
    simp only [Option.getD_some] at h1
    rw [UInt8.toNat.inj (by omega : ((dl p)[j]).toNat = ((dl s)[q + j]).toNat)]
  · rw [if_neg hj, List.getElem?_eq_none (by rw [dl_len]; omega)]

theorem eqAt_no (s p : ByteArray) (q k : Nat) (hk : k < p.size) (hne : bt s (q + k) ≠ bt p k) : eqAt (dl s) q (dl p) = false := by
  rw [Bool.eq_false_iff]
  intro he
  obtain ⟨_, h2⟩ := (eqAt_iff _ _ _).1 he
  obtain ⟨r, hr⟩ := h2
  apply hne
  unfold bt
  change (((dl s)[q + k]?.getD 0).toNat : Int) = (((dl p)[k]?.getD 0).toNat : Int)
  have : (dl s)[q + k]? = (dl p)[k]? := by
    rw [← List.getElem?_drop, ← hr, List.getElem?_append_left (by rw [dl_len]; exact hk)]
  rw [this]

theorem eqAt_far (s p : ByteArray) (q : Nat) (h : ¬ q + p.size ≤ s.size) : eqAt (dl s) q (dl p) = false := by
  rw [Bool.eq_false_iff]
  intro he
  have := ((eqAt_iff _ _ _).1 he).1
  rw [dl_len, dl_len] at this
  exact h this

theorem upto {P : Nat → Prop} {k : Nat} (h : ∀ j, j < k → P j) (hk : P k) : ∀ j, j < k + 1 → P j := fun j hj => by
  rcases Nat.lt_or_ge j k with h' | h'
  · exact h j h'
  · have e : j = k := by omega
    subst e; exact hk

set_option maxHeartbeats 1000000 in
theorem eqAt_any (s p : ByteArray) (q : Nat) (w : World) (hs : s.size ≤ 1048576) (hp : p.size ≤ 1048576) (hq : q ≤ 1048576) :
    Calls Try.prog 25 #[.string s, .int .i64 q, .string p] w fun e w' => e = .returned (.bool (eqAt (dl s) q (dl p))) ∧ ∃ n, w' = w.drewN n := by
  have hq0 : decide ((q : Int) < 0) = false := by simp
  by_cases h1 : s.size < q
  · have HF := hide1 (eqAt_far s p q (by omega))
    go_enter Try.func25, Try.ntmps25
    go_wp2_with fail
    go_ret
    exact ⟨ret_bool HF.out.symm, 0, rfl⟩
  · have h1' : decide ((s.size : Int) < (q : Int)) = false := by simp; omega
    by_cases h2 : q + p.size ≤ s.size
    · have h2' : decide ((s.size : Int) - (q : Int) < (p.size : Int)) = false := by simp; omega
      go_enter Try.func25, Try.ntmps25
      go_wp2_with fail
      go_loopw [7] (fun i wr => ∃ k n : Nat, k ≤ p.size ∧ i = .int .i64 k ∧ Hid (∀ j, j < k → bt s (q + j) = bt p j) ∧ wr = w.drewN n) (fun i _ => p.size - (intOf i).toNat)
      case atStart => exact ⟨0, 0, Nat.zero_le _, rfl, fun j hj => absurd hj (Nat.not_lt_zero _), rfl⟩
      case round =>
        obtain ⟨k, n, hk, rfl, hh, rfl⟩ := hrel
        by_cases hlt : k < p.size
        · have c1 : (0 : Int) ≤ (q : Int) + (k : Int) := by omega
          have c2 : (q : Int) + (k : Int) < (s.size : Int) := by omega
          have c3 : (k : Int) < (p.size : Int) := by omega
          have c4 : (0 : Int) ≤ (k : Int) := by omega
          have ea := bt_eq s (q + k) (by omega)
          have eb := bt_eq p k hlt
          by_cases ht : bt s (q + k) = bt p k
          · have h3 : ((s[q + k].toNat : Int) != (p[k].toNat : Int)) = false := by rw [bne_eq_false_iff_eq]; omega
            have HC := hide1 ht
            clear ht ea eb
            go_wp2_with fail
            go_quiet (fail)
            go_wp2_with fail
            go_roundw
            case rel => exact ⟨k + 1, _, by omega, by go_num, upto hh.out HC.out, rfl⟩
            case measure => simp [intOf]; omega
          · have h3 : ((s[q + k].toNat : Int) != (p[k].toNat : Int)) = true := by rw [bne_iff_ne]; omega
            have HF := hide1 (eqAt_no s p q k hlt ht)
            clear ht ea eb
            go_wp2_with fail
            go_quiet (fail)
            go_wp2_with fail
            go_ret
            exact ⟨ret_bool HF.out.symm, n + nq, by simp⟩
        · have HF := hide1 (eqAt_yes s p q h2 (fun j hj => hh.out j (by omega)))
          go_wp2_with fail
          go_ret
          exact ⟨ret_bool HF.out.symm, _, rfl⟩
    · have HF := hide1 (eqAt_far s p q h2)
      go_enter Try.func25, Try.ntmps25
      go_wp2_with fail
      go_ret
      exact ⟨ret_bool HF.out.symm, 0, rfl⟩

/-- what zzBytes answers: if yes, each string is short -/
def ZZ (n : Nat) (P : Nat → ByteArray) (e : Ending) : Prop := ∃ b, e = .returned (.bool b) ∧ (b = true → ∀ j, j < n → (P j).size ≤ 1048576)
theorem zz_no {n : Nat} {P : Nat → ByteArray} : ZZ n P (.returned (.bool false)) := ⟨false, rfl, fun h => by simp at h⟩
theorem zz_yes {n : Nat} {P : Nat → ByteArray} (h : ∀ j, j < n → (P j).size ≤ 1048576) : ZZ n P (.returned (.bool true)) := ⟨true, rfl, fun _ => h⟩

set_option maxHeartbeats 1000000 in
theorem zz_any (a : Option Addr) (n c : Nat) (P : Nat → ByteArray) (s : ByteArray) (w : World) (hn : n ≤ 9223372036854775807) (hs : s.size ≤ 9223372036854775807) (hl : ∀ j, j < n → (P j).size ≤ 9223372036854775807)
    (hc : ∀ j, j < n → ∃ b off, a = some ⟨b, off, none⟩ ∧ w.cell? ⟨b, off + j, none⟩ = some (.string (P j))) :
    Calls Try.prog 8 #[.slice a n c, .string s] w fun e w' => ZZ n P e ∧ w' = w := by
  have HC := hide1 hc
  have HL := hide1 hl
  clear hc hl
  by_cases h1 : 1048576 < n
  · go_enter Try.func8, Try.ntmps8
    go_wp2_with fail
    go_ret
    exact ⟨zz_no, rfl⟩
  · go_enter Try.func8, Try.ntmps8
    go_wp2_with fail
    go_loop [5, 6] (fun t i => ∃ k m : Nat, k ≤ n ∧ m ≤ 1048576 ∧ i = .int .i64 k ∧ t = .int .i64 m ∧ Hid (∀ j, j < k → (P j).size ≤ 1048576)) (fun _ i => n - (intOf i).toNat)
    case atStart => exact ⟨0, n, Nat.zero_le _, by omega, rfl, by go_num, fun j hj => absurd hj (Nat.not_lt_zero _)⟩
    case round =>
      obtain ⟨k, m, hk, hm, rfl, rfl, hh⟩ := hrel
      by_cases hlt : k < n
      · obtain ⟨b, off, rfl, hcell⟩ := HC.out k hlt
        have hlk := HL.out k hlt
        have hk1 : (k : Int) < (n : Int) := by omega
        have hk0 : (0 : Int) ≤ (k : Int) := by omega
        by_cases h2 : 1048576 < (P k).size
        · go_wp2_with fail
          go_ret
          exact ⟨zz_no, rfl⟩
        · by_cases h3 : 1048576 < m + (P k).size
          · go_wp2_with fail
            go_ret
            exact ⟨zz_no, rfl⟩
          · go_wp2_with fail
            go_round
            case rel => exact ⟨k + 1, m + (P k).size, by omega, by omega, by go_num, by go_num, upto hh.out (by omega)⟩
            case measure => simp [intOf]; omega
      · have HA : Hid (∀ j, j < n → (P j).size ≤ 1048576) := fun j hj => hh.out j (by omega)
        clear hh
        by_cases h2 : 1048576 < s.size
        · go_wp2_with fail
          go_ret
          exact ⟨zz_no, rfl⟩
        · by_cases h3 : 1048576 < m + s.size
          · go_wp2_with fail
            go_ret
            exact ⟨zz_no, rfl⟩
          · go_wp2_with fail
            go_ret
            exact ⟨zz_yes HA.out, rfl⟩

end Go.Proofs.Qxb6000630a.Wild
