/-
  Seat b6000385a: the plain law of Security at a code that is built as the law builds it. No Go in sight.
-/
import Derived.Lib.LastIndexByte
import Derived.Lib.CutLaws
namespace Go.Proofs.Qxb6000385a.Pl
open Go

theorem bang (s : ByteArray) (l : List UInt8) (h : s.data.toList = l) (j : Nat) : s.data[j]! = l[j]?.getD default := by
  subst h; simp [getElem!_def]; cases s.data[j]? <;> rfl

theorem lastDot (code : ByteArray) (pre rest : List UInt8) (h : code.data.toList = pre ++ rest) (hpre : pre = [] ∨ ∃ p, pre = p ++ [46]) (hrest : ∀ c ∈ rest, c ≠ 46) :
    Lib.lastIndexByte code 46 = (pre.length : Int) - 1 := by
  have hsz : code.size = pre.length + rest.length := by
    have : code.size = code.data.toList.length := by simp only [Array.length_toList]; rfl
    rw [this, h, List.length_append]
  have hr : ∀ j, pre.length ≤ j → j < code.size → ((code.data[j]!).toNat : Int) ≠ 46 := by
    intro j h1 h2 e
    rw [bang code _ h, List.getElem?_append_right h1, List.getElem?_eq_getElem (by omega)] at e
    have hm := hrest _ (List.getElem_mem (l := rest) (n := j - pre.length) (by omega))
    apply hm
    apply UInt8.toNat.inj
    simp at e
    show _ = 46
    omega
  rcases hpre with rfl | ⟨p, rfl⟩
  · rcases Lib.lastIndexByte_spec code 46 with ⟨e, _⟩ | ⟨i, hi, e, hc, _⟩
    · rw [e]; rfl
    · exact absurd hc (hr i (by simp) hi)
  · have hd : ((code.data[p.length]!).toNat : Int) = 46 := by
      rw [bang code _ h, List.append_assoc, List.getElem?_append_right (Nat.le_refl _)]
      simp
    rcases Lib.lastIndexByte_spec code 46 with ⟨_, hn⟩ | ⟨i, hi, e, hc, hn⟩
    · exact absurd hd (hn _ (by rw [hsz]; simp; omega))
    · have h1 : i < (p ++ [46]).length := by
        rcases Nat.lt_or_ge i (p ++ [46]).length with h' | h'
        · exact h'
        · exact absurd hc (hr i h' hi)
      have h2 : ¬ i < p.length := fun h' => hn p.length h' (by rw [hsz]; simp; omega) hd
      rw [e]
      simp at h1 ⊢
      omega

theorem cutSpace (s m : List UInt8) (hs : ∀ c ∈ s, c ≠ 32) : Lib.cut (s ++ 32 :: m) [32] = (s, m, true) := by
  have hi : Lib.index (s ++ 32 :: m) [32] = (s.length : Int) := by
    apply Lib.index_first (by simp)
    · simp [Lib.occAt]
    · intro j hj
      unfold Lib.occAt
      rw [List.drop_append_of_le_length (by omega), List.drop_eq_getElem_cons hj]
      simp only [List.cons_append, List.isPrefixOf]
      have := hs _ (List.getElem_mem hj)
      simp [Ne.symm this]
  unfold Lib.cut
  rw [hi, if_pos (by omega)]
  simp

theorem indexSpace (s m : List UInt8) (hs : ∀ c ∈ s, c ≠ 32) : Lib.indexByte (s ++ 32 :: m) 32 = (s.length : Int) := by
  induction s with
  | nil => simp [Lib.indexByte]
  | cons a t ih =>
    have h1 := ih (fun c hc => hs c (List.mem_cons_of_mem _ hc))
    have h2 : (a == 32) = false := by rw [beq_eq_false_iff_ne]; exact hs a (List.mem_cons_self ..)
    rw [List.cons_append, Lib.indexByte, h1, h2]
    have : ((t.length : Int) == -1) = false := by rw [beq_eq_false_iff_ne]; omega
    simp [this]

theorem eq_of_data {a b : ByteArray} (h : a.data.toList = b.data.toList) : a = b := by
  rw [← Lib.mk_data a, ← Lib.mk_data b, h]

theorem data_append (a b : ByteArray) : (a ++ b).data.toList = a.data.toList ++ b.data.toList := by
  rw [ByteArray.data_append, Array.toList_append]

/-- group = s, a space, m -/
theorem group_data (s m : ByteArray) : (s ++ ⟨#[32]⟩ ++ m).data.toList = s.data.toList ++ 32 :: m.data.toList := by
  rw [data_append, data_append]; simp

theorem group_left (s m : ByteArray) : (s ++ ⟨#[32]⟩ ++ m).extract 0 s.size = s := by
  apply eq_of_data
  rw [Lib.extract_data, group_data]; simp

theorem group_right (s m : ByteArray) : (s ++ ⟨#[32]⟩ ++ m).extract (s.size + 1) (s ++ ⟨#[32]⟩ ++ m).size = m := by
  apply eq_of_data
  have : s.size = s.data.toList.length := Lib.size_eq s
  rw [Lib.extract_data, Lib.size_eq (s ++ ⟨#[32]⟩ ++ m), group_data, this, List.drop_append, List.take_of_length_le]
  · simp
  · simp; omega

theorem group_size (s m : ByteArray) : (s ++ ⟨#[32]⟩ ++ m).size = s.size + 1 + m.size := by
  rw [Lib.size_eq (s ++ ⟨#[32]⟩ ++ m), group_data, Lib.size_eq s, Lib.size_eq m]; simp; omega

/-- code = p, a point, s, a space, m -/
theorem code_eq (p s m : ByteArray) : p ++ ⟨#[46]⟩ ++ s ++ ⟨#[32]⟩ ++ m = p ++ ⟨#[46]⟩ ++ (s ++ ⟨#[32]⟩ ++ m) := by
  apply eq_of_data
  simp only [data_append, List.append_assoc]

theorem code_size (p g : ByteArray) : (p ++ ⟨#[46]⟩ ++ g).size = p.size + 1 + g.size := by
  rw [Lib.size_eq (p ++ ⟨#[46]⟩ ++ g), data_append, data_append, Lib.size_eq p, Lib.size_eq g]; simp; omega

theorem code_right (p g : ByteArray) : (p ++ ⟨#[46]⟩ ++ g).extract (p.size + 1) (p ++ ⟨#[46]⟩ ++ g).size = g := by
  apply eq_of_data
  have : p.size = p.data.toList.length := Lib.size_eq p
  rw [Lib.extract_data, Lib.size_eq (p ++ ⟨#[46]⟩ ++ g), data_append, data_append, this, List.drop_append, List.take_of_length_le]
  · simp
  · simp; omega

theorem extract_all (g : ByteArray) : g.extract 0 g.size = g := by
  apply eq_of_data
  rw [Lib.extract_data, List.take_of_length_le]
  · simp
  · rw [Lib.size_eq]; simp

end Go.Proofs.Qxb6000385a.Pl
