import Derived.Test.Qxb6609067aFmtPlain
import Derived.Lib.Replace
import Derived.Lib.IndexMore
namespace Go.Proofs.Qxb6609067aFmt
open Go.Lib

/-- A tab becomes a blank. -/
def tabF (c : UInt8) : UInt8 := if c = 9 then 32 else c

theorem index_one_cons (b c : UInt8) (l : List UInt8) : index (b :: l) [c] = if b = c then 0 else if index l [c] = -1 then -1 else index l [c] + 1 := by
  rw [index]
  by_cases h : b = c
  · subst h; simp
  · have : ([c].isPrefixOf (b :: l)) = false := by simp [List.isPrefixOf]; exact fun e => h e.symm
    rw [this, if_neg h]
    by_cases h2 : index l [c] = -1 <;> simp [h2]

theorem index_blank (l : List UInt8) : index (l.map tabF) [32] = if Pl.fw l < l.length then (Pl.fw l : Int) else -1 := by
  induction l with
  | nil => rfl
  | cons c r ih =>
    rw [List.map_cons, index_one_cons, Pl.fw]
    by_cases h : c = 32 ∨ c = 9
    · have : tabF c = 32 := by rcases h with rfl | rfl <;> rfl
      rw [if_pos this, if_pos h]
      simp
    · have hn : tabF c ≠ 32 := by
        unfold tabF
        rw [if_neg (fun e => h (.inr e))]
        exact fun e => h (.inl e)
      rw [if_neg hn, if_neg h, ih]
      by_cases h2 : Pl.fw r < r.length
      · rw [if_pos h2, if_neg (by omega), if_pos (by simp; omega)]; simp
      · rw [if_neg h2, if_pos rfl, if_neg (by simp; omega)]

theorem fw_le (l : List UInt8) : Pl.fw l ≤ l.length := by
  induction l with
  | nil => exact Nat.le_refl _
  | cons c r ih => rw [Pl.fw]; split <;> simp; omega

theorem fw_take (l : List UInt8) : ∀ c ∈ l.take (Pl.fw l), ¬ (c = 32 ∨ c = 9) := by
  induction l with
  | nil => intro c hc; simp at hc
  | cons b r ih =>
    intro c hc
    rw [Pl.fw] at hc
    split at hc
    · simp at hc
    · rename_i h
      rw [List.take_succ_cons, List.mem_cons] at hc
      rcases hc with rfl | hc
      · exact h
      · exact ih c hc

theorem map_fw (l : List UInt8) : (l.map tabF).take (Pl.fw l) = l.take (Pl.fw l) := by
  rw [← List.map_take]
  conv => rhs; rw [← List.map_id (l.take (Pl.fw l))]
  apply List.map_congr_left
  intro c hc
  have := fw_take l c hc
  unfold tabF
  rw [if_neg (fun e => this (.inr e))]
  rfl

theorem cut_name (l : List UInt8) : (cut (l.map tabF) [32]).1 = l.take (Pl.fw l) := by
  have hle := fw_le l
  unfold cut
  rw [index_blank]
  by_cases h : Pl.fw l < l.length
  · rw [if_pos h, if_pos (by omega)]
    simp only [Int.toNat_natCast]
    exact map_fw l
  · rw [if_neg h, if_neg (by omega)]
    have e : Pl.fw l = l.length := by omega
    have := map_fw l
    rw [e] at this ⊢
    simp only [List.take_length] at this ⊢
    rw [List.take_of_length_le (by simp)] at this
    exact this

theorem count_none (l : List UInt8) (h : count l [9] = 0) : l.map tabF = l := by
  have hi : index l [9] = -1 := by
    rcases index_spec l [9] with h' | ⟨i, hi, _⟩
    · exact h'.1
    · rw [count_hit (by simp) hi] at h; omega
  clear h
  induction l with
  | nil => rfl
  | cons c r ih =>
    rw [index_one_cons] at hi
    by_cases hc : c = 9
    · rw [if_pos hc] at hi; simp at hi
    · rw [if_neg hc] at hi
      have hr : index r [9] = -1 := by
        by_cases h2 : index r [9] = -1
        · exact h2
        · rw [if_neg h2] at hi
          have := index_ge r [9]
          omega
      rw [List.map_cons, ih hr, tabF, if_neg hc]

theorem index_tab (l : List UInt8) (i : Nat) (h : index l [9] = i) : i < l.length ∧ l.map tabF = l.take i ++ [32] ++ (l.drop (i + 1)).map tabF := by
  induction l generalizing i with
  | nil => simp [index] at h
  | cons c r ih =>
    rw [index_one_cons] at h
    by_cases hc : c = 9
    · rw [if_pos hc] at h
      have : i = 0 := by omega
      subst this
      subst hc
      simp [tabF]
    · rw [if_neg hc] at h
      by_cases h2 : index r [9] = -1
      · rw [if_pos h2] at h; omega
      · rw [if_neg h2] at h
        cases i with
        | zero => have := index_ge r [9]; omega
        | succ i =>
          obtain ⟨h3, h4⟩ := ih i (by omega)
          refine ⟨by simp; omega, ?_⟩
          rw [List.map_cons, h4, tabF, if_neg hc]
          simp

theorem replace_tabs : ∀ (k : Nat) (l : List UInt8), count l [9] = k → replaceK [9] [32] k l = l.map tabF := by
  intro k
  induction k with
  | zero => intro l h; rw [count_none l h]; rfl
  | succ k ih =>
    intro l h
    obtain ⟨i, hi⟩ := index_of_count (s := l) (old := [9]) (by omega)
    rw [replaceK_hit _ _ _ _ i hi]
    have hc := count_hit (sub := [9]) (by simp) hi
    rw [ih _ (by simp only [List.length_singleton] at hc ⊢; omega)]
    exact (index_tab l i hi).2.symm

theorem replaceAll_tabs (l : List UInt8) : replaceAll l [9] [32] = l.map tabF := by
  unfold replaceAll replace
  have : (([9] : List UInt8) == [32]) = false := by decide
  rw [this]
  have hn : replaceNum l [9] (-1) = count l [9] := by unfold replaceNum; rw [if_pos (.inl (by omega))]
  rw [hn]
  exact replace_tabs _ l rfl

end Go.Proofs.Qxb6609067aFmt
