import Derived.Test.Qxb6609067aFmtEnv
import Derived.Test.Qxb6609067aFmtTrim
namespace Go.Proofs.Qxb6609067aFmt
open Go.RowKit

theorem labelL_eq (s : ByteArray) : ∀ ws : List (Int × Int × Int), (∀ t ∈ ws, ∃ p b : Nat, t.1 = (p : Int) ∧ t.2.1 = ((p + b : Nat) : Int) ∧ p + b ≤ s.size ∧ t.2.2 = Pl.eqAt 0 p ((s.data.toList.drop p).take b) ∧ (t.2.2 = -1 ∨ ((p : Int) ≤ t.2.2 ∧ t.2.2 < ((p + b : Nat) : Int)))) →
    labelL s ws = pairsL (ws.map (seg s)) := by
  intro ws
  induction ws with
  | nil => intro _; rfl
  | cons t r ih =>
    intro h
    have ih' := ih fun t ht => h t (List.mem_cons_of_mem _ ht)
    obtain ⟨p, b, h1, h2, h3, h4, h5⟩ := h t (by simp)
    have hseg : seg s t = s.extract p (p + b) := by unfold seg; rw [h1, h2, Int.toNat_natCast, Int.toNat_natCast]
    have hsh := Pl.eqAt_shift ((s.data.toList.drop p).take b) 0 0 p
    rw [Nat.zero_add] at hsh
    rw [List.map_cons, hseg, labelL, pairsL, seg_list, ← ih']
    generalize hq : Pl.eqAt 0 0 ((s.data.toList.drop p).take b) = q at *
    rw [h4, hsh] at h5
    rw [h4, hsh, h1, h2]
    by_cases hc : q ≤ 0
    · rw [if_pos hc, if_pos]
      by_cases hq0 : q < 0
      · rw [if_pos hq0]; omega
      · rw [if_neg hq0]; omega
    · have hq0 : ¬ q < 0 := by omega
      rw [if_neg hq0] at h5
      rw [if_neg hc, if_neg hq0, if_neg (by omega)]
      obtain ⟨k, rfl⟩ : ∃ k : Nat, q = k := ⟨q.toNat, by omega⟩
      have e1 : ((k : Int) + (p : Int)).toNat = p + k := by omega
      have e2 : ((p : Nat) : Int).toNat = p := by omega
      have e3 : (((p + b : Nat)) : Int).toNat = p + b := by omega
      have e4 : ((k : Nat) : Int).toNat = k := by omega
      simp only [e1, e2, e3, e4]
      rw [seg_head s p b k (by omega), seg_tail s p b k h3]

theorem label_eq (s : ByteArray) : label s = readRes s := by
  unfold label readRes
  by_cases h : (allW s).2 = true
  · rw [if_pos h, if_pos h, labelL_eq s _ (words_ok s h)]
  · rw [if_neg h, if_neg h]

theorem hasEq_plain (s : ByteArray) (h : ∀ c ∈ s.data.toList, ¬ (c = 32 ∨ c = 9)) : hasEq s = decide (0 ≤ Pl.eqAt 0 0 s.data.toList) := by
  unfold hasEq allW
  generalize s.data.toList = l at *
  cases l with
  | nil => rfl
  | cons c r =>
    have hc := h c (by simp)
    have hr : ∀ x ∈ r, ¬ (x = 32 ∨ x = 9) := fun x hx => h x (by simp [hx])
    rw [Pl.W, if_neg hc, Pl.eqAt]
    cases hu : Pl.unitLen (c :: r) with
    | none =>
      by_cases h61 : c = 61
      · simp [h61]
      · simp [h61]
    | some n =>
      have hn := Pl.unitLen_le (c :: r) (by simp) n hu
      simp only [List.length_cons] at hn
      by_cases h61 : c = 61
      · have hW := Pl.W_one r hr (n - 1) (0 + 1) 0 0 (by omega) (by omega) (by omega)
        simp [h61, hW]
      · have hW := Pl.W_one r hr (n - 1) (0 + 1) 0 (-1) (by omega) (by omega) (by omega)
        simp [h61, hW]

theorem hasEq_name (ar : ByteArray) : hasEq (nameOf ar) = decide (0 ≤ Pl.eqAt 0 0 (nameOf ar).data.toList) := by
  refine hasEq_plain _ ?_
  rw [nameOf_list]
  exact fw_take _

theorem value_eq (ar : ByteArray) : (⟨(Lib.trimSpaceU (ar.extract (Pl.fw ar.data.toList) ar.size).data.toList).toArray⟩ : ByteArray) = valueOf ar := by
  unfold valueOf
  rw [Lib.trimSpaceU_eq]
  congr 3
  rw [Lib.extract_data, List.take_of_length_le]
  rw [List.length_drop]
  simp
end Go.Proofs.Qxb6609067aFmt
