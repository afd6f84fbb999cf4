/-
  Seat b6000559a: the walk of bytes.Repeat at a slice of one byte '0'.
-/
import Derived.Test.Qxb6000559aMem
import Derived.Test.Qxb6000559aShelf
import Derived.Lib.MakeNoZero
import Derived.Deep.RegionLaw
import Derived.Deep.DeepCutAuto
import Derived.Deep.CutBlock
namespace Go.Proofs.Qxb6000559a.Num
open Go.RowKit

/-- copy as one step of a region that draws, its run known by an equation -/
theorem step_copy_run {P : Program} {ops : Array Oper} {o : Oper} {a : Act} {w : World} {K : Act → World → Prop} {Q : Exit → Act → World → Prop} {E : Prop} (hgd : o.guard = none) (d s : Operand) (t t' : TypeId)
    (ho : o.op = .call { callee := .builtin .copy, args := #[d, s], argTypes := #[t, t'] }) (v u : Value) (hd : a.eval d = v) (hs : a.eval s = u) {v' : Value} {w' : World}
    (hr : (Builtin.copy_ #[t, t'] o.type #[v, u]).run P w = .ok v' w') (h : K (a.put o.dst v') w') :
    if Region.wanted o (yielded ops a.tmps) = true then Oper.wp P o a w K Q else E := by
  have hw : Region.wanted o (yielded ops a.tmps) = true := by simp [Region.wanted, hgd]
  rw [if_pos hw]
  exact Lib.wp_copy_run w d s t t' ho v u hd hs hr h

theorem add0 (h j : Nat) : (⟨h, 0, none⟩ : Addr).add j = ⟨h, j, none⟩ := by
  unfold Addr.add; split <;> simp_all

/-- 'copy(nb[bp:], nb[:ch])' in a buffer whose first bp bytes are '0' -/
theorem copy_self (w0 wr : World) (h N bp ch : Nat) (hb : Lib.Buf w0 wr h N (List.replicate bp 48)) (h1 : bp < N) (h2 : ch ≤ bp) :
    ∃ wr', (Builtin.copy_ #[36, 36] 3 #[Lib.tailV h N bp, .slice (some ⟨h, 0, none⟩) ch N]).run Try.prog wr = .ok (.int .i64 ((min ch (N - bp) : Nat) : Int)) wr' ∧ Lib.Buf w0 wr' h N (List.replicate (bp + min ch (N - bp)) 48) := by
  obtain ⟨c, hc⟩ : ∃ c, c = min ch (N - bp) := ⟨_, rfl⟩
  rw [← hc]
  have hl : (u8s (List.replicate c 48)).length = c := by simp [u8s]
  have hr := run_copy_cells (P := Try.prog) wr 36 36 3 5 h bp (N - bp) (N - bp) ⟨h, 0, none⟩ ch N (u8s (List.replicate c 48)) und36 inf5 (by rw [hl, hc])
    (fun j u hj => by
      have hj' : j < c := by
        have := (List.getElem?_eq_some_iff.1 hj).1; rw [hl] at this; exact this
      simp only [u8s, List.getElem?_map, List.getElem?_replicate, hj', if_true, Option.map_some, Option.some.injEq] at hj
      subst hj
      have := hb.holds j 48 (by rw [List.getElem?_replicate, if_pos (by omega)])
      rw [add0]; exact this)
    (fun j hj => by rw [hl] at hj; exact hb.there _ (by omega)) (fun j hj => by rw [hl] at hj; exact hb.free _ (by omega))
    (fun u hu' => by obtain ⟨x, _, rfl⟩ := List.mem_map.1 hu'; rfl)
  rw [hl] at hr
  refine ⟨_, by unfold Lib.tailV; rw [if_neg (by omega)]; exact hr, ?_⟩
  have hin := World.cell?_setCells_in h (u8s (List.replicate c 48)) bp wr (fun j hj => by rw [hl] at hj; exact hb.there _ (by omega))
  have hout := World.cell?_setCells_out h (u8s (List.replicate c 48)) bp wr
  refine ⟨Lib.below_setCells h (Nat.le_refl _) _ _ hb.below, ?_, ?_, ?_, by simp; omega⟩
  · intro j hj
    by_cases h3 : bp ≤ j ∧ j < bp + c
    · obtain ⟨d, rfl⟩ : ∃ d, j = bp + d := ⟨j - bp, by omega⟩
      rw [hin d (by omega)]; rfl
    · rw [hout ⟨h, j, none⟩ (fun _ _ => by rw [hl]; show j < _ ∨ _ ≤ j; omega)]
      exact hb.there j hj
  · intro j hj
    rw [World.frozen?_setCells]; exact hb.free j hj
  · intro j x hx
    rw [List.getElem?_replicate] at hx
    split at hx
    · rename_i h4
      simp at hx; subst hx
      by_cases h3 : bp ≤ j
      · obtain ⟨d, rfl⟩ : ∃ d, j = bp + d := ⟨j - bp, by omega⟩
        rw [hin d (by omega)]
        simp [u8s]
      · rw [hout ⟨h, j, none⟩ (fun _ _ => Or.inl (by show j < bp; omega))]
        exact hb.holds j 48 (by rw [List.getElem?_replicate, if_pos (by omega)])
    · exact absurd hx (by simp)

theorem row_of_buf {w0 wr : World} {h N : Nat} (hb : Lib.Buf w0 wr h N (List.replicate N 48)) : Row wr h N (fun _ => 48) :=
  ⟨fun j hj => hb.holds j 48 (by rw [List.getElem?_replicate, if_pos hj]), hb.free⟩

theorem buf_drew {w0 wr : World} {h N : Nat} {acc : List UInt8} (hb : Lib.Buf w0 wr h N acc) (n : Nat) : Lib.Buf w0 (wr.drewN n) h N acc :=
  ⟨below_drewN hb.below n, hb.there, hb.free, hb.holds, hb.fits⟩

end Go.Proofs.Qxb6000559a.Num
