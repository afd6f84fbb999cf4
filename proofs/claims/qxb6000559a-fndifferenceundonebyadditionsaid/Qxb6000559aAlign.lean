/-
  Seat b6000559a: the walk of aligned.
-/
import Derived.Test.Qxb6000559aRepeatW
import Derived.Test.Qxb6000559aDiffQ
import Derived.Lib.BufferWrite
namespace Go.Proofs.Qxb6000559a.Num
open Go.RowKit

theorem bt_list (s : ByteArray) (j : Nat) : (((s.data.toList)[j]?.getD 0).toNat : Int) = bt s j := rfl

/-- 'copy(out[bp:], s)', s a string -/
theorem copy_str (w : World) (h n bp : Nat) (f : Nat → Int) (s : ByteArray) (r : Row w h n f) (hfit : bp + s.size ≤ n) :
    ∃ w', (Builtin.copy_ #[36, 9] 3 #[Lib.tailV h n bp, .string s]).run Try.prog w = .ok (.int .i64 (s.size : Int)) w' ∧ Row w' h n (fun j => if bp ≤ j ∧ j < bp + s.size then bt s (j - bp) else f j) ∧ ∀ (B : Nat) (w0 : World), B ≤ h → Below B w0 w → Below B w0 w' := by
  by_cases h0 : s.size = 0
  · refine ⟨w, ?_, r.congr fun j hj => by rw [if_neg (by omega)], fun B w0 _ hb => hb⟩
    unfold Lib.tailV
    rw [Lib.run_copy_empty_string w 36 9 3 5 _ _ _ s und36 (by kernel_rfl) h0, h0]
    rfl
  · have hr := run_copy_string (P := Try.prog) w 36 9 3 5 h bp (n - bp) (n - bp) s und36 siz5 (by omega) (fun j hj => by rw [r.cells _ (by omega)]; rfl) (fun j hj => r.free _ (by omega))
    have hl : s.data.toList.length = s.size := by simp
    refine ⟨_, by unfold Lib.tailV; rw [if_neg (by omega)]; exact hr, ?_, fun B w0 hB hb => below_put hb hB _⟩
    refine (r.put bp s.data.toList (by omega)).congr fun j hj => ?_
    rw [hl]; rfl

set_option maxRecDepth 100000 in
set_option maxHeartbeats 4000000 in
theorem aligned_any (W F : ByteArray) (whole places : Nat) (w : World) (hw0 : 1 ≤ whole) (hw : W.size ≤ whole) (hf : F.size ≤ places) (n : Nat) (hN : n = whole + 1 + places) (hn : n ≤ 1048576) :
    Calls Try.prog 36 #[.string W, .string F, .int .i64 whole, .int .i64 places] w fun e w' => NewRow w n (alF W F whole) e w' := by
  have HN : Hid (n = whole + 1 + places) := hN
  have hn3 : whole + 1 + places ≤ 1048576 := by omega
  clear hN
  go_enter Try.func36, Try.ntmps36
  go_wp2_with fail
  rw [show ((whole : Int) + 1 + (places : Int)) = (n : Int) by have := HN.out; omega]
  refine (repeat_any w.heap.size n _ (by have := HN.out; omega) hn (by simp)).mono ?_
  rintro e w1 ⟨h, rfl, R0, hh1, hh2, hB⟩
  have hB1 : Below w.heap.size w w1 := ((Below.refl _ _).alloc (Nat.le_refl _) _).trans (hB.mono (by simp))
  have hh : w.heap.size ≤ h := by simp at hh1; omega
  have hn1 : whole + 1 ≤ n := by have := HN.out; omega
  clear hB hh1 hh2
  obtain ⟨d, hd⟩ : ∃ d, whole - W.size = d := ⟨_, rfl⟩
  obtain ⟨w2, hr2, R1, hB2⟩ := copy_str w1 h n d _ W R0 (by omega)
  have hB2' := hB2 _ _ hh hB1
  clear hB2 hB1 R0
  have hsl1 : ∀ X, (Instr.slice 36 (.slice (some ⟨h, 0, none⟩) n n) (some (.int .i64 ((whole : Int) - (W.size : Int)))) none none).run Try.prog X = .ok (Lib.tailV h n d) X := fun X => by
    rw [show ((whole : Int) - (W.size : Int)) = (d : Int) by omega]
    exact Lib.run_slice_tailV X 36 5 und36 siz5 _ n d (by omega)
  have hsl2 : ∀ X, (Instr.slice 36 (.slice (some ⟨h, 0, none⟩) n n) (some (.int .i64 ((whole : Int) + 1))) none none).run Try.prog X = .ok (Lib.tailV h n (whole + 1)) X := fun X => by
    have := Lib.run_slice_tailV (P := Try.prog) X 36 5 und36 siz5 h n (whole + 1) (by omega)
    rwa [show ((whole + 1 : Nat) : Int) = (whole : Int) + 1 by omega] at this
  have hcell := R1.cells whole (by omega)
  have hfree := R1.free whole (by omega)
  have R2 := R1.set whole (by omega) 46
  obtain ⟨w3, hr3, R3, hB3⟩ := copy_str (w2.setCell ⟨h, whole, none⟩ (.int .u8 46)) h n (whole + 1) _ F R2 (by have := HN.out; omega)
  have hB3' := hB3 _ _ hh (hB2'.setCell (p := ⟨h, whole, none⟩) hh _)
  have HR := R3.congr (g := alF W F whole) (fun j hj => by unfold alF; rw [hd])
  have HR' : Aside _ := HR
  have HB' : Aside _ := hB3'
  clear hB3 hB2' R1 R2 R3 hB3' HR
  go_wp2_with fail
  go_ret
  exact ⟨h, rfl, HR'.out, hh, row_lt HR'.out (by omega), HB'.out⟩

end Go.Proofs.Qxb6000559a.Num
