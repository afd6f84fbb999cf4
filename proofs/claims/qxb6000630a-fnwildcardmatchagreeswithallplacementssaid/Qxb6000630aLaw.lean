/-
  Seat b6000630a: the walk of FnWildcardMatchAgreesWithAllPlacements.
-/
import Derived.Test.Qxb6000630aModel
import Derived.Laws.IdiomCopy
namespace Go.Proofs.Qxb6000630a.Wild
open Go.RowKit

set_option maxHeartbeats 1000000 in
theorem zzmatch_any (h n c : Nat) (P : Nat → ByteArray) (s : ByteArray) (m : Int) (w : World) (hn : 2 ≤ n) (hn2 : n ≤ 1048576) (hc : n ≤ c) (hs : s.size ≤ 1048576) (hl : ∀ j, j < n → (P j).size ≤ 1048576)
    (r : StrRow w h n P) (hm : w.cell? ⟨0, 0, none⟩ = some (.int .i64 m)) :
    Calls Try.prog 9 #[.slice (some ⟨h, 0, none⟩) n c, .string s] w fun e w' => e = .returned (.bool (matchB (dl s) (parts P) n)) ∧ ∃ q, w' = w.drewN q := by
  have H1 := hide1 (match_any h n c P s m w hn hn2 hc hs hl r hm)
  clear r hm hl
  go_enter Try.func9, Try.ntmps9
  go_wp2_with fail
  refine H1.out.mono ?_
  rintro e w' ⟨rfl, q, rfl⟩
  go_wp2_with fail
  go_ret
  exact ⟨rfl, _, rfl⟩

theorem und22 : Try.prog.underlying 22 = some (.slice 9) := Try.underlying22
theorem inf9 : (Try.prog.info? 9).map (·.size) = some 1 := by kernel_rfl

theorem mks (n : Nat) (hn : n ≤ 1048576) : ∀ W, (Instr.makeSlice 22 (.int .i64 (n : Int)) (.int .i64 (n : Int))).run Try.prog W = .ok (.slice (some ⟨W.heap.size, 0, none⟩) n n) (W.alloc (.cells (madeCells #[.string ⟨#[]⟩] n) 9)) :=
  fun W => run_make_row' 22 9 (.string ⟨#[]⟩) 16 und22 (by kernel_rfl) rfl .i64 .i64 n (by omega) (by omega) W

theorem neqn (x : Addr) (n c : Nat) : ∀ w, (binOp .neq 22 (.slice (some x) n c) (.slice none 0 0)).run Try.prog w = .ok (.bool true) w := fun w => by
  have := run_neq_slice_nil_any (P := Try.prog) w 22 9 (some x) n c 0 0 und22
  simpa using this
theorem neqnil : ∀ w, (binOp .neq 22 (.slice none 0 0) (.slice none 0 0)).run Try.prog w = .ok (.bool false) w := fun w => by
  have := run_neq_slice_nil_any (P := Try.prog) w 22 9 none 0 0 0 0 und22
  simpa using this

theorem setCells_below {B : Nat} {a : World} (b : Nat) (hb : B ≤ b) : ∀ (vs : List Value) (o : Nat) {w : World}, Below B a w → Below B a (w.setCells b o vs)
  | [], _, _, h => h
  | v :: r, o, _, h => setCells_below b hb r (o + 1) (h.setCell (p := ⟨b, o, none⟩) hb v)

def cellsP (n : Nat) (P : Nat → ByteArray) : List Value := (List.range n).map fun j => .string (P j)

theorem copy_strs (w : World) (x : Addr) (n c : Nat) (P : Nat → ByteArray) (hc : ∀ j, j < n → ∃ b off, x = ⟨b, off, none⟩ ∧ w.cell? ⟨b, off + j, none⟩ = some (.string (P j))) :
    ∃ w2, (Builtin.copy_ #[22, 22] 3 #[.slice (some ⟨w.heap.size, 0, none⟩) n n, .slice (some x) n c]).run Try.prog (w.alloc (.cells (madeCells #[.string ⟨#[]⟩] n) 9)) = .ok (.int .i64 (n : Int)) w2 ∧ StrRow w2 w.heap.size n P ∧ Below w.heap.size w w2 := by
  have hB : Below w.heap.size w (w.alloc (.cells (madeCells #[.string ⟨#[]⟩] n) 9)) := (Below.refl _ _).alloc (Nat.le_refl _) _
  by_cases h0 : n = 0
  · subst h0
    exact ⟨_, run_copy_none (P := Try.prog) _ 22 22 3 9 _ _ 0 0 0 c und22 inf9 rfl, fun j hj => absurd hj (Nat.not_lt_zero _), hB⟩
  · obtain ⟨b, off, rfl, _⟩ := hc 0 (by omega)
    have hl : (cellsP n P).length = n := by simp [cellsP]
    have hthere : ∀ j, j < n → ((w.alloc (.cells (madeCells #[.string ⟨#[]⟩] n) 9)).cell? ⟨w.heap.size, 0 + j, none⟩).isSome = true := fun j hj => by
      rw [World.cell?_alloc_mark]
      simp [madeCells, hj]
    have hr := run_copy_cells (P := Try.prog) (w.alloc (.cells (madeCells #[.string ⟨#[]⟩] n) 9)) 22 22 3 9 w.heap.size 0 n n ⟨b, off, none⟩ n c (cellsP n P) und22 inf9 (by rw [hl]; exact (Nat.min_self n).symm)
      (fun j u hj => by
        have hj' : j < n := by have := (List.getElem?_eq_some_iff.1 hj).1; rw [hl] at this; exact this
        obtain ⟨b2, off2, e, hcell⟩ := hc j hj'
        simp only [Addr.mk.injEq, and_true] at e
        obtain ⟨rfl, rfl⟩ := e
        simp only [cellsP, List.getElem?_map, List.getElem?_range hj', Option.map_some, Option.some.injEq] at hj
        subst hj
        have hbl := World.block_lt_of_cell? w ⟨b, off + j, none⟩ hcell
        have e2 : (⟨b, off, none⟩ : Addr).add j = ⟨b, off + j, none⟩ := by unfold Addr.add; split <;> simp_all
        rw [e2, hB.cell (p := ⟨b, off + j, none⟩) hbl]; exact hcell)
      (fun j hj => by rw [hl] at hj; exact hthere j hj)
      (fun j hj => by
        have := World.frozen?_alloc_mark w (madeCells #[.string ⟨#[]⟩] n) 9 0 0 (0 + j)
        rw [this]; simp)
      (fun u hu' => by obtain ⟨x, _, rfl⟩ := List.mem_map.1 hu'; rfl)
    rw [hl] at hr
    refine ⟨_, hr, fun j hj => ?_, ?_⟩
    · have hin := World.cell?_setCells_in w.heap.size (cellsP n P) 0 (w.alloc (.cells (madeCells #[.string ⟨#[]⟩] n) 9)) (fun i hi => by rw [hl] at hi; exact hthere i hi) j (by rw [hl]; exact hj)
      rw [Nat.zero_add] at hin
      rw [hin]
      simp [cellsP]
    · exact setCells_below w.heap.size (Nat.le_refl _) _ _ hB

set_option maxRecDepth 100000 in
set_option maxHeartbeats 2000000 in
theorem law_row (x : Addr) (n c : Nat) (P : Nat → ByteArray) (s : ByteArray) (m : Int) (w : World) (hn : n ≤ 9223372036854775807) (hs : s.size ≤ 9223372036854775807) (hl : ∀ j, j < n → (P j).size ≤ 9223372036854775807)
    (hc : ∀ j, j < n → ∃ b off, x = ⟨b, off, none⟩ ∧ w.cell? ⟨b, off + j, none⟩ = some (.string (P j))) (hm : w.cell? ⟨0, 0, none⟩ = some (.int .i64 m)) :
    Calls Try.prog 3 #[.slice (some x) n c, .string s] w fun e w' => e = .returned (.bool true) ∧ Below w.heap.size w w' := by
  have HZ := hide1 (zz_any (some x) n c P s w hn hs hl (fun j hj => by obtain ⟨b, o, e, h⟩ := hc j hj; exact ⟨b, o, by rw [e], h⟩))
  have HCP := hide1 (copy_strs w x n c P hc)
  have hnil := neqn x n c
  have h00 : 0 < w.heap.size := World.block_lt_of_cell? w ⟨0, 0, none⟩ hm
  have HM := hide1 hm
  clear hc hl hm
  go_enter Try.func3, Try.ntmps3
  go_wp2_with fail
  refine HZ.out.mono ?_
  rintro e w' ⟨⟨b, rfl, hb⟩, rfl⟩
  cases b
  · clear hb
    go_wp2_with fail
    go_ret
    exact ⟨rfl, Below.refl _ _⟩
  have HL := hide1 (hb rfl)
  clear hb HZ
  by_cases c1 : 4096 < n
  · go_wp2_with fail
    go_ret
    exact ⟨rfl, Below.refl _ _⟩
  by_cases c2 : 4096 < s.size
  · go_wp2_with fail
    go_ret
    exact ⟨rfl, Below.refl _ _⟩
  have hmk := mks n (by omega)
  obtain ⟨w2, hr2, hrow, hB2⟩ := HCP.out
  have HR := hide1 hrow
  have AB : Aside _ := hB2
  have hm2 : w2.cell? ⟨0, 0, none⟩ = some (.int .i64 m) := by rw [hB2.cell (p := ⟨0, 0, none⟩) h00]; exact HM.out
  have HM2 := hide1 hm2
  clear hrow hB2 hm2 HCP
  go_wp2_with fail
  go_loop [6, 7] (fun t i => ∃ k z : Nat, k ≤ n ∧ z ≤ k * 1048576 ∧ i = .int .i64 (k : Int) ∧ t = .int .i64 (z : Int)) (fun _ i => n - (intOf i).toNat)
  case atStart => exact ⟨0, 0, Nat.zero_le _, by omega, rfl, rfl⟩
  case round =>
    obtain ⟨k, z, hk, hz, rfl, rfl⟩ := hrel
    clear hr2 hmk hnil
    by_cases hlt : k < n
    · have hcell := HR.out k hlt
      have hlk := HL.out k hlt
      have hk1 : (k : Int) < (n : Int) := by omega
      have hk2 : (0 : Int) ≤ (k : Int) := by omega
      go_wp2_with fail
      go_round
      case rel => exact ⟨k + 1, z + (P k).size, by omega, by omega, by go_num, by go_num⟩
      case measure => simp [intOf]; omega
    · have hk1 : ¬ (k : Int) < (n : Int) := by omega
      by_cases c3 : 4096 < z
      · go_wp2_with fail
        go_ret
        exact ⟨rfl, AB.out⟩
      by_cases c4 : n < 2
      · go_wp2_with fail
        go_ret
        exact ⟨rfl, AB.out⟩
      have H1 := hide1 (zzmatch_any w'.heap.size n n P s m w2 (by omega) (by omega) (Nat.le_refl _) (by omega) HL.out HR.out HM2.out)
      go_wp2_with fail
      refine H1.out.mono ?_
      rintro e w3 ⟨rfl, q, rfl⟩
      have H2 := hide1 (model_any w'.heap.size n n P s (w2.drewN q) (by omega) (by omega) (by omega) HL.out HR.out)
      clear H1
      go_wp2_with fail
      refine H2.out.mono ?_
      rintro e w4 ⟨rfl, hb4⟩
      have AB4 : Aside (Below w'.heap.size w' w4) := (below_drewN AB.out q).trans (hb4.mono (by have := AB.out.size; exact this))
      clear hb4 H2
      rw [agree]
      go_wp2_with fail
      go_ret
      exact ⟨ret_bool (by simp), AB4.out⟩

set_option maxHeartbeats 1000000 in
theorem law_nil (s : ByteArray) (w : World) (hs : s.size ≤ 9223372036854775807) :
    Calls Try.prog 3 #[.slice none 0 0, .string s] w fun e w' => e = .returned (.bool true) ∧ Below w.heap.size w w' := by
  have HZ := hide1 (zz_any none 0 0 (fun _ => s) s w (by omega) hs (fun j hj => absurd hj (Nat.not_lt_zero _)) (fun j hj => absurd hj (Nat.not_lt_zero _)))
  have hnil := neqnil
  go_enter Try.func3, Try.ntmps3
  go_wp2_with fail
  refine HZ.out.mono ?_
  rintro e w' ⟨⟨b, rfl, hb⟩, rfl⟩
  clear hb HZ
  cases b
  · go_wp2_with fail
    go_ret
    exact ⟨rfl, Below.refl _ _⟩
  by_cases c2 : 4096 < s.size
  · go_wp2_with fail
    go_ret
    exact ⟨rfl, Below.refl _ _⟩
  go_wp2_with fail
  go_loop [6, 7] (fun t i => i = .int .i64 0 ∧ t = .int .i64 0) (fun _ i => 0 - (intOf i).toNat)
  case atStart => exact ⟨rfl, rfl⟩
  case round =>
    obtain ⟨rfl, rfl⟩ := hrel
    go_wp2_with fail
    go_ret
    exact ⟨rfl, Below.refl _ _⟩

end Go.Proofs.Qxb6000630a.Wild
