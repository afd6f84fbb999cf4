/-
  Seat b6000591a: the walks of copyBytes and bytes.LastIndexByte.
-/
import Derived.Test.Qxb6000591aMem
namespace Go.Proofs.Qxb6000591a.Pos
open Go.RowKit

theorem eqn (x : Addr) (n c : Nat) : ∀ w, (binOp .eql 24 (.slice (some x) n c) (.slice none 0 0)).run Try.prog w = .ok (.bool false) w := fun w => by
  have := Lib.run_eql_slice_nil (P := Try.prog) w 24 5 (some x) n c 0 0 und24
  simpa using this

theorem mk (n : Nat) (hn : n ≤ 1048576) : ∀ W, (Instr.makeSlice 24 (.int .i64 (n : Int)) (.int .i64 (n : Int))).run Try.prog W = .ok (.slice (some ⟨W.heap.size, 0, none⟩) n n) (W.alloc (.cells (madeCells #[.int .u8 0] n) 5)) :=
  fun W => run_make_row' 24 5 (.int .u8 0) 1 und24 (by kernel_rfl) rfl .i64 .i64 n (by omega) (by omega) W

def upd (f : Nat → Int) (k j : Nat) : Int := if j < k then f j else 0
theorem upd_start (f : Nat → Int) (j : Nat) : 0 = upd f 0 j := by unfold upd; rw [if_neg (by omega)]
theorem upd_step (f : Nat → Int) (k j : Nat) : (if j = k then f k else upd f k j) = upd f (k + 1) j := by
  unfold upd
  by_cases h : j = k
  · subst h; rw [if_pos rfl, if_pos (by omega)]
  · rw [if_neg h]
    by_cases h2 : j < k
    · rw [if_pos h2, if_pos (by omega)]
    · rw [if_neg h2, if_neg (by omega)]
theorem upd_end (f : Nat → Int) (k j : Nat) (h : j < k) : upd f k j = f j := by unfold upd; rw [if_pos h]

set_option maxRecDepth 100000 in
set_option maxHeartbeats 1000000 in
theorem copy_row (x : Addr) (len cap : Nat) (f : Nat → Int) (w : World) (hl : len ≤ 1048576) (hc : ∀ j, j < len → ∃ b off, x = ⟨b, off, none⟩ ∧ w.cell? ⟨b, off + j, none⟩ = some (.int .u8 (f j))) :
    Calls Try.prog 13 #[.slice (some x) len cap] w fun e w' => Copied w len f e w' := by
  have hnil := eqn x len cap
  have hmk := mk len hl
  have HC := (show Hid _ from hc)
  have AR0 : Aside (Row (w.alloc (.cells (madeCells #[.int .u8 0] len) 5)) w.heap.size len (upd f 0)) := (row_made w len).congr (fun j _ => upd_start f j)
  have AB0 : Aside (Below w.heap.size w (w.alloc (.cells (madeCells #[.int .u8 0] len) 5))) := (Below.refl _ _).alloc (Nat.le_refl _) _
  clear hc
  go_enter Try.func13, Try.ntmps13
  go_wp2_with fail
  go_loopg [4] len (fun gh s4 wr => ∃ k : Nat, k ≤ len ∧ len - k ≤ gh ∧ s4 = .int .i64 (k : Int) ∧ Aside (Row wr w.heap.size len (upd f k)) ∧ Aside (Below w.heap.size w wr) ∧ w.heap.size < wr.heap.size)
  case atStart => exact ⟨0, Nat.zero_le _, by omega, rfl, AR0, AB0, by simp⟩
  case round =>
    obtain ⟨k, hk, hgh, rfl, AR, AB, hlt⟩ := hrel
    clear AR0 AB0
    by_cases hkl : k < len
    · obtain ⟨b, off, rfl, hcell⟩ := HC.out k hkl
      have hbl : b < w.heap.size := World.block_lt_of_cell? w ⟨b, off + k, none⟩ hcell
      have hcell' : wr.cell? ⟨b, off + k, none⟩ = some (.int .u8 (f k)) := by rw [AB.out.cell (p := ⟨b, off + k, none⟩) hbl]; exact hcell
      have hne : ¬ w.heap.size = b := by omega
      have hc2 := AR.out.cells k hkl
      have hf2 := AR.out.free k hkl
      have hk1 : (k : Int) < (len : Int) := by omega
      have A1 : Aside (Row (wr.setCell ⟨w.heap.size, k, none⟩ (.int .u8 (f k))) w.heap.size len (upd f (k + 1))) := (AR.out.set k hkl (f k)).congr (fun j _ => upd_step f k j)
      have A2 : Aside (Below w.heap.size w (wr.setCell ⟨w.heap.size, k, none⟩ (.int .u8 (f k)))) := AB.out.setCell (p := ⟨w.heap.size, k, none⟩) (Nat.le_refl _) _
      clear hcell AR AB
      go_wp2_with fail
      go_roundg (len - (k + 1))
      case measure => omega
      case rel => exact ⟨k + 1, by omega, Nat.le_refl _, by go_num, A1, A2, by simpa [World.setCell] using hlt⟩
    · obtain rfl : k = len := by omega
      go_wp2_with fail
      go_ret
      exact ⟨rfl, AR.out.congr (fun j hj => upd_end f k j hj), hlt, AB.out⟩

set_option maxHeartbeats 1000000 in
theorem last25 (h n c : Nat) (f : Nat → Int) (w : World) (hl : n ≤ 1048576) (r : Row w h n f) :
    Calls Try.prog 25 #[.slice (some ⟨h, 0, none⟩) n c, .int .u8 10] w fun e w' => e = .returned (.int .i64 (lst f n)) ∧ w' = w := by
  have HR : Aside _ := r
  clear r
  go_enter Try.func25, Try.ntmps25
  go_wp2_with fail
  go_loop [5] (fun i => ∃ k : Nat, k ≤ n ∧ i = .int .i64 ((k : Int) - 1) ∧ Hid (lst f n = lst f k)) (fun i => (intOf i + 1).toNat)
  case atStart => exact ⟨n, Nat.le_refl _, by go_num, rfl⟩
  case round =>
    obtain ⟨k, hk, h5, hh⟩ := hrel
    cases k with
    | zero =>
      have e0 : ((0 : Nat) : Int) - 1 = -1 := by omega
      rw [e0] at h5
      subst h5
      have HF : Hid (lst f n = -1) := hh.out
      go_wp2_with fail
      go_ret
      exact ⟨by rw [HF.out]; rfl, rfl⟩
    | succ q =>
      have e0 : ((q + 1 : Nat) : Int) - 1 = (q : Int) := by omega
      rw [e0] at h5
      subst h5
      clear e0
      have hc := HR.out.cells q (by omega)
      have hq1 : (q : Int) < (n : Int) := by omega
      by_cases h10 : f q = 10
      · have hb : (f q == 10) = true := by rw [beq_iff_eq]; exact h10
        have HF : Hid (lst f n = (q : Int)) := by show _ = _; rw [hh.out]; unfold lst; rw [if_pos h10]
        clear h10
        go_wp2_with fail
        go_ret
        exact ⟨by rw [HF.out]; rfl, rfl⟩
      · have hb : (f q == 10) = false := by rw [beq_eq_false_iff_ne]; exact h10
        have HF : Hid (lst f n = lst f q) := by show _ = _; rw [hh.out]; rw [lst, if_neg h10]
        clear h10 hh
        go_wp2_with fail
        go_round
        case rel => exact ⟨q, by omega, rfl, HF⟩
        case measure => simp [intOf]

set_option maxHeartbeats 1000000 in
theorem last25_nil (w : World) :
    Calls Try.prog 25 #[.slice none 0 0, .int .u8 10] w fun e w' => e = .returned (.int .i64 (-1)) ∧ w' = w := by
  go_enter Try.func25, Try.ntmps25
  go_wp2_with fail
  go_loop [5] (fun i => i = .int .i64 (-1)) (fun i => (intOf i + 1).toNat)
  case atStart => rfl
  case round =>
    subst hrel
    go_wp2_with fail
    go_ret
    exact ⟨rfl, rfl⟩

set_option maxHeartbeats 1000000 in
theorem last_row (h n c : Nat) (f : Nat → Int) (w : World) (hl : n ≤ 1048576) (r : Row w h n f) :
    Calls Try.prog 21 #[.slice (some ⟨h, 0, none⟩) n c, .int .u8 10] w fun e w' => e = .returned (.int .i64 (lst f n)) ∧ w' = w := by
  go_enter Try.func21, Try.ntmps21
  go_wp2_with fail
  refine (last25 h n c f _ hl r).mono ?_
  rintro e w' ⟨rfl, rfl⟩
  go_wp2_with fail
  go_ret
  exact ⟨rfl, rfl⟩

set_option maxHeartbeats 1000000 in
theorem last_nil (w : World) :
    Calls Try.prog 21 #[.slice none 0 0, .int .u8 10] w fun e w' => e = .returned (.int .i64 (-1)) ∧ w' = w := by
  go_enter Try.func21, Try.ntmps21
  go_wp2_with fail
  refine (last25_nil _).mono ?_
  rintro e w' ⟨rfl, rfl⟩
  go_wp2_with fail
  go_ret
  exact ⟨rfl, rfl⟩

end Go.Proofs.Qxb6000591a.Pos
