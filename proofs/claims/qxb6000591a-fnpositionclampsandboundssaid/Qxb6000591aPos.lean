/-
  Seat b6000591a: the walk of position, ZZPosition.
-/
import Derived.Test.Qxb6000591aCopy
namespace Go.Proofs.Qxb6000591a.Pos
open Go.RowKit

theorem hide1 {p : Prop} (h : p) : Hid p := h

theorem getD_range (f : Nat → Int) (k i : Nat) (h : i < k) : ((List.range k).map f).getD i 0 = f i := by
  simp [List.getD, List.getElem?_map, List.getElem?_range h]

theorem Row.le {w : World} {h N k : Nat} {f : Nat → Int} (r : Row w h N f) (hk : k ≤ N) : Row w h k f :=
  ⟨fun j hj => r.cells j (by omega), fun j hj => r.free j (by omega)⟩

theorem count_row (h n c b2 d : Nat) (f : Nat → Int) (w : World) (r : ∀ j, j < n → w.cell? ⟨h, j, none⟩ = some (.int .u8 (f j))) (hc2 : w.cell? ⟨b2, 0, none⟩ = some (.int .u8 10)) :
    Calls Try.prog 20 #[.slice (some ⟨h, 0, none⟩) n c, .slice (some ⟨b2, 0, none⟩) 1 d] w fun e w' => e = .returned (.int .i64 (cnt f n : Int)) ∧ w' = w := by
  refine (Try.bytes_Count_one h 0 n c b2 0 d ((List.range n).map f) 10 w (by simp) (fun i hi => by rw [getD_range f n i hi, Nat.zero_add]; exact r i hi) hc2).mono ?_
  rintro e w' ⟨rfl, rfl⟩
  exact ⟨rfl, rfl⟩

theorem count_nil (b2 d : Nat) (w : World) (hc2 : w.cell? ⟨b2, 0, none⟩ = some (.int .u8 10)) :
    Calls Try.prog 20 #[.slice none 0 0, .slice (some ⟨b2, 0, none⟩) 1 d] w fun e w' => e = .returned (.int .i64 0) ∧ w' = w :=
  Try.bytes_Count_one_nil b2 0 d 10 w hc2

set_option maxRecDepth 100000 in
set_option maxHeartbeats 1000000 in
theorem pos_row (h n : Nat) (f : Nat → Int) (off : Int) (k : Nat) (w : World) (hl : n ≤ 1048576) (r : Row w h n f) (hh : h < w.heap.size) (hk : min (max off 0) (n : Int) = (k : Int)) :
    Calls Try.prog 19 #[.slice (some ⟨h, 0, none⟩) n n, .int .i64 off] w fun e w' => e = .returned (.tuple #[.int .i64 ((cnt f k : Int) + 1), .int .i64 ((k : Int) - lst f k)]) ∧ Below w.heap.size w w' := by
  have hkn : k ≤ n := by omega
  have hkn2 : (k : Int) ≤ (n : Int) := by omega
  have hlr := lst_range f k
  obtain ⟨hlr1, hlr2⟩ := hlr
  have kc := fun (w : World) (C : Array Value) (n c : Nat) => Lib.run_convert_bytes_const (P := Try.prog) w 24 5 C n c und24 Try.underlying5
  have AR : Aside _ := r
  have hB : Below w.heap.size w (w.alloc (.cells #[.int .u8 10] 5 (1, 2))) := (Below.refl _ _).alloc (Nat.le_refl _) _
  have AB : Aside _ := hB
  have hcn : Lib.countByte (Lib.bytesOf ((List.range k).map f)) 10 ≤ k := by
    have := List.count_le_length (a := (10 : UInt8)) (l := Lib.bytesOf ((List.range k).map f))
    simpa [Lib.countByte, Lib.bytesOf] using this
  have hcn2 : cnt f k ≤ k := hcn
  clear r hB hcn
  go_enter Try.func19, Try.ntmps19
  have R1 : Row (w.alloc (.cells #[.int .u8 10] 5 (1, 2))) h k f := (AR.out.below AB.out hh).le hkn
  have hc2 : (w.alloc (.cells #[.int .u8 10] 5 (1, 2))).cell? ⟨w.heap.size, 0, none⟩ = some (.int .u8 10) := by rw [World.cell?_alloc_mark]; rfl
  have H1 := hide1 (count_row h k n w.heap.size 1 f _ R1.cells hc2)
  have H2 := hide1 (last_row h k n f _ (by omega) R1)
  clear R1 hc2
  go_wp2_with fail
  refine H1.out.mono ?_
  rintro e w' ⟨rfl, rfl⟩
  go_wp2_with fail
  refine H2.out.mono ?_
  rintro e w' ⟨rfl, rfl⟩
  go_wp2_with fail
  go_ret2
  exact ⟨rfl, AB.out⟩

set_option maxRecDepth 100000 in
set_option maxHeartbeats 1000000 in
theorem pos_nil (off : Int) (w : World) :
    Calls Try.prog 19 #[.slice none 0 0, .int .i64 off] w fun e w' => e = .returned (.tuple #[.int .i64 1, .int .i64 1]) ∧ Below w.heap.size w w' := by
  have hk : min (max off 0) 0 = 0 := by omega
  have kc := fun (w : World) (C : Array Value) (n c : Nat) => Lib.run_convert_bytes_const (P := Try.prog) w 24 5 C n c und24 Try.underlying5
  have hB : Below w.heap.size w (w.alloc (.cells #[.int .u8 10] 5 (1, 2))) := (Below.refl _ _).alloc (Nat.le_refl _) _
  have AB : Aside _ := hB
  have hc2 : (w.alloc (.cells #[.int .u8 10] 5 (1, 2))).cell? ⟨w.heap.size, 0, none⟩ = some (.int .u8 10) := by rw [World.cell?_alloc_mark]; rfl
  have H1 := hide1 (count_nil w.heap.size 1 _ hc2)
  clear hB hc2
  go_enter Try.func19, Try.ntmps19
  go_wp2_with fail
  refine H1.out.mono ?_
  rintro e w' ⟨rfl, rfl⟩
  go_wp2_with fail
  refine (last_nil _).mono ?_
  rintro e w' ⟨rfl, rfl⟩
  go_wp2_with fail
  go_ret2
  exact ⟨rfl, AB.out⟩

set_option maxHeartbeats 1000000 in
theorem zzpos_row (h n : Nat) (f : Nat → Int) (off : Int) (k : Nat) (w : World) (hl : n ≤ 1048576) (r : Row w h n f) (hh : h < w.heap.size) (hk : min (max off 0) (n : Int) = (k : Int)) :
    Calls Try.prog 14 #[.slice (some ⟨h, 0, none⟩) n n, .int .i64 off] w fun e w' => e = .returned (.tuple #[.int .i64 ((cnt f k : Int) + 1), .int .i64 ((k : Int) - lst f k)]) ∧ Below w.heap.size w w' := by
  have H1 := hide1 (pos_row h n f off k w hl r hh hk)
  clear hk r
  go_enter Try.func14, Try.ntmps14
  go_wp2_with fail
  refine H1.out.mono ?_
  rintro e w' ⟨rfl, hb⟩
  have AB : Aside _ := hb
  clear hb H1
  go_wp2_with fail
  go_ret2
  exact ⟨rfl, AB.out⟩

set_option maxHeartbeats 1000000 in
theorem zzpos_nil (off : Int) (w : World) :
    Calls Try.prog 14 #[.slice none 0 0, .int .i64 off] w fun e w' => e = .returned (.tuple #[.int .i64 1, .int .i64 1]) ∧ Below w.heap.size w w' := by
  go_enter Try.func14, Try.ntmps14
  go_wp2_with fail
  refine (pos_nil off _).mono ?_
  rintro e w' ⟨rfl, hb⟩
  have AB : Aside _ := hb
  clear hb
  go_wp2_with fail
  go_ret2
  exact ⟨rfl, AB.out⟩

end Go.Proofs.Qxb6000591a.Pos
