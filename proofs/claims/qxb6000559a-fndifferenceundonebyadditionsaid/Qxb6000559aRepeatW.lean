/-
  Seat b6000559a: the walk of bytes.Repeat at a slice of one byte '0'.
-/
import Derived.Test.Qxb6000559aRepeat
namespace Go.Proofs.Qxb6000559a.Num
open Go.RowKit

/-- a new row of n bytes f, and nothing old turned -/
def NewRow (w : World) (n : Nat) (f : Nat → Int) (e : Ending) (w' : World) : Prop :=
  ∃ h, e = .returned (.slice (some ⟨h, 0, none⟩) n n) ∧ Row w' h n f ∧ w.heap.size ≤ h ∧ h < w'.heap.size ∧ Below w.heap.size w w'

theorem row_lt {w : World} {h n : Nat} {f : Nat → Int} (r : Row w h n f) (h0 : 0 < n) : h < w.heap.size := World.block_lt_of_cell? w ⟨h, 0, none⟩ (r.cells 0 h0)

theorem mul1 (n : Nat) (hn : n ≤ 1048576) (w : World) : Calls Try.prog 42 #[.int .u64 1, .int .u64 n] w fun e w' => e = .returned (.tuple #[.int .u64 0, .int .u64 n]) ∧ w' = w := by
  refine (Try.bits_Mul 1 n (by omega) (by omega) w).mono ?_
  rintro e w' ⟨rfl, rfl⟩
  refine ⟨?_, rfl⟩
  have e1 : 1 * n / 18446744073709551616 = 0 := by omega
  have e2 : 1 * n % 18446744073709551616 = n := by omega
  rw [e1, e2]; rfl

set_option maxRecDepth 100000 in
set_option maxHeartbeats 4000000 in
theorem repeat_any (b n : Nat) (w : World) (hn2 : 2 ≤ n) (hn : n ≤ 1048576) (hc : w.cell? ⟨b, 0, none⟩ = some (.int .u8 48)) :
    Calls Try.prog 39 #[.slice (some ⟨b, 0, none⟩) 1 1, .int .i64 n] w fun e w' => NewRow w n (fun _ => 48) e w' := by
  have hb0 : ((n : Int) == 0) = false := by rw [beq_eq_false_iff_ne]; omega
  go_enter Try.func39, Try.ntmps39
  go_wp2_with fail
  refine (mul1 n hn _).mono ?_
  rintro e w' ⟨rfl, rfl⟩
  go_upto_if 42 with fail
  go_cut [8] (fun x wx => w' = wx ∧ ∃ cm : Nat, 1 ≤ cm ∧ cm ≤ 1048576 ∧ x = .int .i64 cm)
  case first =>
    by_cases h8 : 8192 < n
    · go_wp2_with fail
      go_meet
      case rel => exact ⟨rfl, 8192, by omega, by omega, rfl⟩
    · go_wp2_with fail
      go_meet
      case rel => exact ⟨rfl, n, by omega, by omega, rfl⟩
  case rest =>
  obtain ⟨rfl, cm, hcm, hcm2, rfl⟩ := hcut
  obtain ⟨cs, hrunM, hle, _⟩ := Lib.run_makeNoZero (P := Try.prog) w' #[3] 36 5 und36 n (by omega)
  have hcall : (callFunc 43 #[.int .i64 (n : Int)]).run Try.prog w' = .ok (.value (.slice (some ⟨w'.heap.size, 0, none⟩) n cs.size)) ((w'.alloc (.cells cs 5)).drewN 2) := by
    rw [run_callFunc_extern Try.func43 (by kernel_rfl) (by kernel_rfl) (by kernel_rfl) (e := Extern.BytealgMakeNoZero.makeNoZero #[3] #[36]) (by kernel_rfl), hrunM]
    rfl
  clear hrunM
  have i0 : (0 : Int) ≤ (n : Int) := by omega
  have i1 : (n : Int) ≤ (cs.size : Int) := by omega
  have B0 := Lib.Buf.start w' cs 5 n 2 hle
  obtain ⟨w1, hr1, B1⟩ := Lib.copy_part (P := Try.prog) w' _ w'.heap.size n [] [48] (.slice (some ⟨b, 0, none⟩) 1 1) 36 3 5 und36 inf5 (Nat.le_refl _) B0 ⟨some ⟨b, 0, none⟩, 1, rfl, by simp, by
    intro a ha j x hx
    cases ha
    cases j with
    | zero => simp at hx; subst hx; rw [add0]; exact hc
    | succ j => simp at hx⟩ (by simp; omega)
  rw [List.length_nil, Lib.tailV_zero] at hr1
  rw [List.nil_append] at B1
  go_wp2_with (at_builtin; refine Lib.wpList_copy_run _ rfl _ _ 36 36 rfl _ _ rfl rfl hr1 ?_)
  have HB1 : Aside (Lib.Buf w' w1 w'.heap.size n (List.replicate 1 48)) := B1
  clear B1 B0 hr1 hcall hc
  go_loopg [10] n (fun gh s10 wr => ∃ bp : Nat, 1 ≤ bp ∧ bp ≤ n ∧ n - bp ≤ gh ∧ s10 = .int .i64 bp ∧ Aside (Lib.Buf w' wr w'.heap.size n (List.replicate bp 48)))
  case atStart => exact ⟨1, Nat.le_refl _, by omega, by omega, rfl, HB1⟩
  case round =>
    clear HB1
    obtain ⟨bp, hb1, hb2, hgh, rfl, HB⟩ := hrel
    by_cases hlt : bp < n
    · go_upto_region 20 with fail
      obtain ⟨ch, hch⟩ : ∃ ch : Nat, min (bp : Int) (cm : Int) = (ch : Int) := ⟨min bp cm, by omega⟩
      have hch1 : 1 ≤ ch := by omega
      have hch2 : ch ≤ bp := by omega
      have hch3 : ch ≤ n := by omega
      rw [hch]
      clear hch
      have hsl1 : ∀ W, (Instr.slice 36 (.slice (some ⟨w'.heap.size, 0, none⟩) n n) (some (.int .i64 (bp : Int))) none none).run Try.prog W = .ok (Lib.tailV w'.heap.size n bp) W := fun W => Lib.run_slice_tailV W 36 5 und36 siz5 _ n bp (by omega)
      obtain ⟨w2, hr2, B2⟩ := copy_self w' wr.drew w'.heap.size n bp ch (buf_drew HB.out 1) hlt hch2
      obtain ⟨c, hc⟩ : ∃ c, min ch (n - bp) = c := ⟨_, rfl⟩
      rw [hc] at hr2 B2
      have hc1 : 1 ≤ c := by omega
      have hc2 : bp + c ≤ n := by omega
      have HB2 : Aside (Lib.Buf w' w2 w'.heap.size n (List.replicate (bp + c) 48)) := B2
      have hwr : IntKind.i64.wrap ((bp : Int) + (c : Int)) = (bp : Int) + (c : Int) := by rw [IntKind.wrap_i64]; omega
      clear B2 hc HB
      go_region_law (refine step_copy_run rfl (.tmp 70) (.tmp 73) 36 36 rfl (Lib.tailV w'.heap.size n bp) (.slice (some ⟨w'.heap.size, 0, none⟩) ch n) (by simp [Act.eval, Act.put]) (by simp [Act.eval, Act.put]) hr2 ?_)
      go_wp2_with fail
      go_roundg (n - (bp + c))
      case measure => omega
      case rel => exact ⟨bp + c, by omega, hc2, Nat.le_refl _, by go_num, HB2⟩
    · obtain rfl : bp = n := by omega
      go_wp2_with fail
      go_ret
      exact ⟨w'.heap.size, rfl, row_of_buf HB.out, Nat.le_refl _, row_lt (row_of_buf HB.out) (by omega), HB.out.below⟩

end Go.Proofs.Qxb6000559a.Num
