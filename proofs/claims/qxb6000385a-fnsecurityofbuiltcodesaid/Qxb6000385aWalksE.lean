/-
  Seat b6000385a: strings.Cut at a space, strings.LastIndex at a point, Security at the two codes that the law builds.
-/
import Derived.Test.Qxb6000385aWalksD
import Derived.Test.Qxb6000385aShelf
import Derived.Deep.QuietTactic
import Derived.BigQuiet
namespace Go.Proofs.Qxb6000385a.Sec
open Go.RowKit

set_option maxHeartbeats 400000 in
theorem slcut_built (s m : ByteArray) (hns : ∀ c ∈ s.data.toList, c ≠ 32) (hsz : s.size + 1 + m.size ≤ 1048576) (w : World) :
    Calls Try.prog 27 #[.string (s ++ ⟨#[32]⟩ ++ m), .string ⟨#[32]⟩] w fun e w' => e = .returned (.tuple #[.string s, .string m, .bool true]) ∧ ∃ n, w' = w.drewN n := by
  have HI : Hid (Lib.indexByte (s ++ ⟨#[32]⟩ ++ m).data.toList 32 = (s.size : Int)) := by
    show _ = _
    rw [Pl.group_data, Pl.indexSpace _ _ hns, Lib.size_eq s]
  have HL : Hid ((s ++ ⟨#[32]⟩ ++ m).extract 0 s.size = s) := Pl.group_left s m
  have HR : Hid ((s ++ ⟨#[32]⟩ ++ m).extract (s.size + 1) (s ++ ⟨#[32]⟩ ++ m).size = m) := Pl.group_right s m
  have hz := Pl.group_size s m
  generalize s ++ ⟨#[32]⟩ ++ m = g at *
  have c2 : (s.size : Int) ≤ g.size := by omega
  have c4 : (s.size : Int) + 1 ≤ g.size := by omega
  have c5 : (g.size : Int) ≤ 1048576 := by omega
  clear hz
  go_enter Try.func27, Try.ntmps27
  go_wp2_with (go_at_call 31; refine (Try.stringslite_Index_one _ 32 _).mono ?_; rintro e w' ⟨rfl, rfl⟩; rw [HI.out])
  go_quiet (fail)
  go_wp2
  go_ret3
  exact ⟨by rw [HL.out, HR.out]; rfl, _, rfl⟩

theorem cut_built (s m : ByteArray) (hns : ∀ c ∈ s.data.toList, c ≠ 32) (hsz : s.size + 1 + m.size ≤ 1048576) : CutAt (s ++ ⟨#[32]⟩ ++ m) s m := by
  intro w
  have H := slcut_built s m hns hsz
  generalize s ++ ⟨#[32]⟩ ++ m = g at *
  have HH : Hid _ := H
  clear H
  go_enter Try.func23, Try.ntmps23
  go_wp2_with (go_at_call 27; refine (HH.out _).mono ?_; rintro e w' ⟨rfl, n, rfl⟩)
  go_ret3
  exact ⟨rfl, _, rfl⟩

theorem last_built (code : ByteArray) (pre rest : List UInt8) (h : code.data.toList = pre ++ rest) (hpre : pre = [] ∨ ∃ p, pre = p ++ [46]) (hrest : ∀ c ∈ rest, c ≠ 46) (hsz : code.size ≤ 1048576) : LastAt code pre.length := by
  intro w
  refine (Try.strings_LastIndex_one code ⟨#[46]⟩ rfl (by omega) w).mono ?_
  rintro e w' ⟨rfl, rfl⟩
  refine ⟨?_, rfl⟩
  have := Pl.lastDot code pre rest h hpre hrest
  exact congrArg (fun x => Ending.returned (.int .i64 x)) this

theorem full_mem {p : Int → Bool} {s : ByteArray} (h : full p s = true) : ∀ c ∈ s.data.toList, p (c.toNat : Int) = true := by
  simp [full, allP] at h
  intro c hc
  have h2 := h.2
  rw [List.take_of_length_le (by simp)] at h2
  exact h2 c (by simpa using hc)

theorem aln_ok {s : ByteArray} (h : full alnI s = true) : (∀ c ∈ s.data.toList, c ≠ 32) ∧ ∀ c ∈ s.data.toList, c ≠ 46 := by
  constructor
  · rintro c hc rfl; have := full_mem h 32 hc; revert this; decide
  · rintro c hc rfl; have := full_mem h 46 hc; revert this; decide
theorem upp_ok {s : ByteArray} (h : full uppI s = true) : ∀ c ∈ s.data.toList, c ≠ 46 := by
  rintro c hc rfl; have := full_mem h 46 hc; revert this; decide

theorem group_no46 {s m : ByteArray} (ha : full alnI s = true) (hu : full uppI m = true) : ∀ c ∈ (s ++ ⟨#[32]⟩ ++ m).data.toList, c ≠ 46 := by
  rw [Pl.group_data]
  intro c hc
  rcases List.mem_append.1 hc with h | h
  · exact (aln_ok ha).2 c h
  · rcases List.mem_cons.1 h with rfl | h
    · decide
    · exact upp_ok hu c h

theorem sec_at (code g s m : ByteArray) (n : Nat) (hl : LastAt code n) (hn : n ≤ code.size) (hsz : code.size ≤ 1048576) (hg : code.extract n code.size = g) (hc : CutAt g s m) (ls : s.size ≤ 1048576) (lm : m.size ≤ 1048576) (hs : full alnI s = true) (hm : full uppI m = true) :
    SecAt code (s ++ ⟨#[46]⟩ ++ m) := fun w => security_built code g s m n hl hn hsz hg hc ls lm hs hm w

theorem sec2 (s m : ByteArray) (ls : s.size ≤ 262144) (lm : m.size ≤ 262144) (ha : full alnI s = true) (hu : full uppI m = true) : SecAt (s ++ ⟨#[32]⟩ ++ m) (s ++ ⟨#[46]⟩ ++ m) := by
  have hz := Pl.group_size s m
  have hc := cut_built s m (aln_ok ha).1 (by omega)
  have hl := last_built (s ++ ⟨#[32]⟩ ++ m) [] (s ++ ⟨#[32]⟩ ++ m).data.toList (by simp) (.inl rfl) (group_no46 ha hu) (by omega)
  rw [List.length_nil] at hl
  have he := Pl.extract_all (s ++ ⟨#[32]⟩ ++ m)
  have h1 : (s ++ ⟨#[32]⟩ ++ m).size ≤ 1048576 := by omega
  generalize s ++ ⟨#[32]⟩ ++ m = g at *
  exact sec_at g g s m 0 hl (Nat.zero_le _) h1 he hc (by omega) (by omega) ha hu

theorem sec1 (p s m : ByteArray) (lp : p.size ≤ 262144) (ls : s.size ≤ 262144) (lm : m.size ≤ 262144) (ha : full alnI s = true) (hu : full uppI m = true) : SecAt (p ++ ⟨#[46]⟩ ++ s ++ ⟨#[32]⟩ ++ m) (s ++ ⟨#[46]⟩ ++ m) := by
  rw [Pl.code_eq]
  have hz := Pl.group_size s m
  have hz2 := Pl.code_size p (s ++ ⟨#[32]⟩ ++ m)
  have hl := last_built (p ++ ⟨#[46]⟩ ++ (s ++ ⟨#[32]⟩ ++ m)) (p.data.toList ++ [46]) _ (by rw [Pl.data_append, Pl.data_append]) (.inr ⟨_, rfl⟩) (group_no46 ha hu) (by omega)
  have e : (p.data.toList ++ [46]).length = p.size + 1 := by rw [Lib.size_eq p]; simp
  rw [e] at hl
  exact sec_at _ (s ++ ⟨#[32]⟩ ++ m) s m (p.size + 1) hl (by omega) (by omega) (Pl.code_right _ _) (cut_built s m (aln_ok ha).1 (by omega)) (by omega) (by omega) ha hu

theorem law (p s m : ByteArray) (hp : p.size ≤ maxLen) (hs : s.size ≤ maxLen) (hm : m.size ≤ maxLen) (w : World) :
    Calls Try.prog 5 #[.string p, .string s, .string m] w fun e w' => e = .returned (.bool true) ∧ Grown w w' :=
  law_walk p s m w hp hs hm fun lp ls lm ha hu => ⟨sec1 p s m lp ls lm ha hu, sec2 s m ls lm ha hu⟩

end Go.Proofs.Qxb6000385a.Sec
