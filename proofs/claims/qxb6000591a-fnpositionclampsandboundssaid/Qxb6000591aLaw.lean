/-
  Seat b6000591a: the walk of FnPositionClampsAndBounds.
-/
import Derived.Test.Qxb6000591aPos
namespace Go.Proofs.Qxb6000591a.Pos
open Go.RowKit

theorem ret_bool {a b : Bool} (h : a = b) : Ending.returned (.bool a) = .returned (.bool b) := by rw [h]

set_option maxHeartbeats 400000 in
theorem zz_any (a : Option Addr) (len cap : Nat) (off : Int) (w : World) (hl : len ≤ 9223372036854775807) : Calls Try.prog 15 #[.slice a len cap, .int .i64 off] w fun e w' => e = .returned (.bool (decide (len ≤ 1048576))) ∧ w' = w := by
  go_enter Try.func15, Try.ntmps15
  go_wp2
  all_goals
    go_ret
    exact ⟨ret_bool (by rw [Bool.eq_iff_iff]; simp; omega), rfl⟩

set_option maxRecDepth 100000 in
set_option maxHeartbeats 2000000 in
theorem law_nil (off : Int) (w : World) : Calls Try.prog 6 #[.slice none 0 0, .int .i64 off] w fun e w' => e = .returned (.bool true) ∧ Below w.heap.size w w' := by
  have hz : decide (0 ≤ 1048576) = true := by decide
  rcases Int.lt_trichotomy off 0 with ho | ho | ho
  · go_enter Try.func6, Try.ntmps6
    go_wp2_with fail
    refine (zz_any none 0 0 off _ (by omega)).mono ?_
    rintro e w' ⟨rfl, rfl⟩
    go_wp2_with fail
    refine (copy_nil _).mono ?_
    rintro e w' ⟨rfl, rfl⟩
    go_wp2_with fail
    refine (zzpos_nil off _).mono ?_
    rintro e w1 ⟨rfl, hb⟩
    have AB : Aside _ := hb
    clear hb
    go_wp2_with fail
    refine (zzpos_nil 0 _).mono ?_
    rintro e w2 ⟨rfl, hb⟩
    have AB2 : Aside _ := AB.out.trans (hb.mono AB.out.size)
    clear hb AB
    go_wp2_with fail
    go_ret
    exact ⟨rfl, AB2.out⟩
  · subst ho
    go_enter Try.func6, Try.ntmps6
    go_wp2_with fail
    refine (zz_any none 0 0 0 _ (by omega)).mono ?_
    rintro e w' ⟨rfl, rfl⟩
    go_wp2_with fail
    refine (copy_nil _).mono ?_
    rintro e w' ⟨rfl, rfl⟩
    go_wp2_with fail
    refine (zzpos_nil 0 _).mono ?_
    rintro e w1 ⟨rfl, hb⟩
    have AB : Aside _ := hb
    clear hb
    go_wp2_with fail
    go_ret
    exact ⟨rfl, AB.out⟩
  · go_enter Try.func6, Try.ntmps6
    go_wp2_with fail
    refine (zz_any none 0 0 off _ (by omega)).mono ?_
    rintro e w' ⟨rfl, rfl⟩
    go_wp2_with fail
    refine (copy_nil _).mono ?_
    rintro e w' ⟨rfl, rfl⟩
    go_wp2_with fail
    refine (zzpos_nil off _).mono ?_
    rintro e w1 ⟨rfl, hb⟩
    have AB : Aside _ := hb
    clear hb
    go_wp2_with fail
    refine (zzpos_nil 0 _).mono ?_
    rintro e w2 ⟨rfl, hb⟩
    have AB2 : Aside _ := AB.out.trans (hb.mono AB.out.size)
    clear hb AB
    go_wp2_with fail
    go_ret
    exact ⟨rfl, AB2.out⟩

set_option maxRecDepth 100000 in
set_option maxHeartbeats 2000000 in
theorem law_row (x : Addr) (len cap : Nat) (f : Nat → Int) (off : Int) (w : World) (hl : len ≤ 1048576) (hr : ∀ j, 0 ≤ f j ∧ f j < 256) (hc : ∀ j, j < len → ∃ b o, x = ⟨b, o, none⟩ ∧ w.cell? ⟨b, o + j, none⟩ = some (.int .u8 (f j))) :
    Calls Try.prog 6 #[.slice (some x) len cap, .int .i64 off] w fun e w' => e = .returned (.bool true) ∧ Below w.heap.size w w' := by
  have hz : decide (len ≤ 1048576) = true := by simpa using hl
  have HCopy := hide1 (copy_row x len cap f w hl hc)
  have HF := hide1 (fun k => pos_facts f k (fun j _ => hr j))
  have HC0 := hide1 (cnt_zero f)
  clear hc hr
  obtain ⟨k, hk⟩ : ∃ k : Nat, min (max off 0) (len : Int) = (k : Int) := ⟨(min (max off 0) (len : Int)).toNat, by omega⟩
  have HK := hide1 hk
  rcases Int.lt_or_le off 0 with ho | ho
  · have k0 : k = 0 := by omega
    have HK0 := hide1 k0
    clear hk k0
    go_enter Try.func6, Try.ntmps6
    go_wp2_with fail
    refine (zz_any (some x) len cap off _ (by omega)).mono ?_
    rintro e w' ⟨rfl, rfl⟩
    go_wp2_with fail
    refine HCopy.out.mono ?_
    rintro e w1 ⟨rfl, R1, hlt, hB1⟩
    have AR : Aside _ := R1
    have AB : Aside _ := hB1
    clear R1 hB1
    go_wp2_with fail
    refine (zzpos_row w'.heap.size len f off k _ hl AR.out hlt HK.out).mono ?_
    rintro e w2 ⟨rfl, hb⟩
    have AB2 : Aside (Below w'.heap.size w' w2) := AB.out.trans (hb.mono AB.out.size)
    have AR2 : Aside (Row w2 w'.heap.size len f) := AR.out.below hb hlt
    have hlt2 : w'.heap.size < w2.heap.size := Nat.lt_of_lt_of_le hlt hb.size
    clear hb AB AR
    obtain ⟨p1, p2, p3, p4, p5⟩ := HF.out k
    have HL : Hid ((cnt f k : Int) + 1 = 1) := by show _ = _; rw [HK0.out, HC0.out]; rfl
    have HC : Hid ((k : Int) - lst f k = 1) := by show _ = _; rw [HK0.out]; rfl
    rw [HL.out, HC.out]
    clear p1 p2 p3 p4 p5
    go_wp2_with fail
    refine (zzpos_row w'.heap.size len f 0 0 _ hl AR2.out hlt2 (by omega)).mono ?_
    rintro e w3 ⟨rfl, hb⟩
    have AB3 : Aside (Below w'.heap.size w' w3) := AB2.out.trans (hb.mono AB2.out.size)
    clear hb AB2 AR2
    have HL0 : Hid ((cnt f 0 : Int) + 1 = 1) := by show _ = _; rw [HC0.out]; rfl
    have HCC : Hid (((0 : Nat) : Int) - lst f 0 = 1) := rfl
    rw [HL0.out, HCC.out]
    go_wp2_with fail
    go_ret
    exact ⟨rfl, AB3.out⟩
  rcases Int.lt_or_le (len : Int) off with ho2 | ho2
  · have k0 : k = len := by omega
    have HK0 := hide1 k0
    clear hk k0
    go_enter Try.func6, Try.ntmps6
    go_wp2_with fail
    refine (zz_any (some x) len cap off _ (by omega)).mono ?_
    rintro e w' ⟨rfl, rfl⟩
    go_wp2_with fail
    refine HCopy.out.mono ?_
    rintro e w1 ⟨rfl, R1, hlt, hB1⟩
    have AR : Aside _ := R1
    have AB : Aside _ := hB1
    clear R1 hB1
    go_wp2_with fail
    refine (zzpos_row w'.heap.size len f off k _ hl AR.out hlt HK.out).mono ?_
    rintro e w2 ⟨rfl, hb⟩
    have AB2 : Aside (Below w'.heap.size w' w2) := AB.out.trans (hb.mono AB.out.size)
    have AR2 : Aside (Row w2 w'.heap.size len f) := AR.out.below hb hlt
    have hlt2 : w'.heap.size < w2.heap.size := Nat.lt_of_lt_of_le hlt hb.size
    clear hb AB AR
    obtain ⟨p1, p2, p3, p4, p5⟩ := HF.out k
    have p6 : (k : Int) ≤ (len : Int) := by have := HK0.out; omega
    have HL : Hid ((cnt f k : Int) + 1 = (cnt f len : Int) + 1) := by show _ = _; rw [HK0.out]
    have HC : Hid ((k : Int) - lst f k = (len : Int) - lst f len) := by show _ = _; rw [HK0.out]
    rw [HL.out, HC.out]
    rw [HL.out] at p1 p3
    rw [HC.out] at p2 p3 p5
    have p4' : (cnt f len : Int) + 1 ≤ (len : Int) + 1 := by have := HL.out; omega
    clear p4
    have H3 := hide1 (zzpos_row w'.heap.size len f (len : Int) len w2 hl AR2.out hlt2 (by omega))
    generalize (cnt f len : Int) + 1 = L at *
    generalize (len : Int) - lst f len = C at *
    go_wp2_with fail
    refine H3.out.mono ?_
    rintro e w3 ⟨rfl, hb⟩
    have AB3 : Aside (Below w'.heap.size w' w3) := AB2.out.trans (hb.mono AB2.out.size)
    clear hb AB2 AR2 H3
    go_wp2_with fail
    go_ret
    exact ⟨rfl, AB3.out⟩
  · have k0 : (k : Int) = off := by omega
    have HK0 := hide1 k0
    clear hk
    go_enter Try.func6, Try.ntmps6
    go_wp2_with fail
    refine (zz_any (some x) len cap off _ (by omega)).mono ?_
    rintro e w' ⟨rfl, rfl⟩
    go_wp2_with fail
    refine HCopy.out.mono ?_
    rintro e w1 ⟨rfl, R1, hlt, hB1⟩
    have AR : Aside _ := R1
    have AB : Aside _ := hB1
    clear R1 hB1
    go_wp2_with fail
    refine (zzpos_row w'.heap.size len f off k _ hl AR.out hlt HK.out).mono ?_
    rintro e w2 ⟨rfl, hb⟩
    have AB2 : Aside (Below w'.heap.size w' w2) := AB.out.trans (hb.mono AB.out.size)
    have AR2 : Aside (Row w2 w'.heap.size len f) := AR.out.below hb hlt
    have hlt2 : w'.heap.size < w2.heap.size := Nat.lt_of_lt_of_le hlt hb.size
    clear hb AB AR
    obtain ⟨p1, p2, p3, p4, p5⟩ := HF.out k
    generalize (cnt f k : Int) + 1 = L at *
    generalize (k : Int) - lst f k = C at *
    go_wp2_with fail
    go_ret
    exact ⟨rfl, AB2.out⟩

set_option maxHeartbeats 1000000 in
theorem law_big (a : Option Addr) (len cap : Nat) (off : Int) (w : World) (hm : len ≤ 9223372036854775807) (hl : ¬ len ≤ 1048576) :
    Calls Try.prog 6 #[.slice a len cap, .int .i64 off] w fun e w' => e = .returned (.bool true) ∧ Below w.heap.size w w' := by
  have hz : decide (len ≤ 1048576) = false := by simpa using hl
  go_enter Try.func6, Try.ntmps6
  go_wp2_with fail
  refine (zz_any a len cap off _ hm).mono ?_
  rintro e w' ⟨rfl, rfl⟩
  go_wp2_with fail
  go_ret
  exact ⟨rfl, Below.refl _ _⟩

/-- every slice of bytes that came in -/
theorem law (a : Option Addr) (len cap : Nat) (z : List Int) (off : Int) (w : World)
    (h : (a = none ∧ len = 0 ∧ cap = 0 ∧ z = []) ∨ ∃ x, a = some x ∧ len ≤ cap ∧ cap ≤ maxLen ∧ z.length = cap ∧ (∀ i, i < z.length → w.cell? (x.add i) = some (.int .u8 (z.getD i 0))) ∧ ∀ n ∈ z, (Lit.int .u8 n).wf = true) :
    Calls Try.prog 6 #[.slice a len cap, .int .i64 off] w fun e w' => e = .returned (.bool true) ∧ Below w.heap.size w w' := by
  rcases h with ⟨rfl, rfl, rfl, _⟩ | ⟨x, rfl, h1, h2, h3, hc, hw⟩
  · exact law_nil off w
  · unfold maxLen at h2
    by_cases hl : len ≤ 1048576
    · refine law_row x len cap (fun j => z.getD j 0) off w hl (fun j => ?_) (fun j hj => ?_)
      · have := range_u8 hw j
        simp only [List.getD]
        omega
      · obtain ⟨b, o, rfl, hcc⟩ := ints_at hc (by omega)
        exact ⟨b, o, rfl, hcc j (by omega)⟩
    · exact law_big (some x) len cap off w (by omega) hl

end Go.Proofs.Qxb6000591a.Pos
