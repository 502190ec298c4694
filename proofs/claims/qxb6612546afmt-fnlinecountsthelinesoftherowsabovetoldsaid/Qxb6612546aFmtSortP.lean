import Derived.Test.Qxb6612546aFmtBase
import GoSem.Op.String
namespace Go.Proofs.Qxb6612546aFmt
open Go.RowKit

theorem bl_irrefl : ∀ a : List UInt8, Op.bytesLess a a = false
  | [] => rfl
  | a :: x => by rw [Op.bytesLess, bl_irrefl x]; simp

theorem bl_total : ∀ a b : List UInt8, Op.bytesLess a b = false → Op.bytesLess b a = false → a = b
  | [], [], _, _ => rfl
  | [], _ :: _, h, _ => by simp [Op.bytesLess] at h
  | _ :: _, [], _, h => by simp [Op.bytesLess] at h
  | a :: x, b :: y, h, k => by
    rw [Op.bytesLess] at h k
    simp only [Bool.or_eq_false_iff, Bool.and_eq_false_iff, decide_eq_false_iff_not, beq_eq_false_iff_ne] at h k
    have e : a = b := by
      have h1 := h.1
      have k1 := k.1
      rw [UInt8.lt_iff_toNat_lt] at h1 k1
      exact UInt8.toNat_inj.1 (by omega)
    subst e
    have h2 : Op.bytesLess x y = false := h.2.resolve_left (fun e => e rfl)
    have k2 : Op.bytesLess y x = false := k.2.resolve_left (fun e => e rfl)
    rw [bl_total x y h2 k2]

theorem bl_trans : ∀ a b c : List UInt8, Op.bytesLess a b = true → Op.bytesLess b c = true → Op.bytesLess a c = true
  | _, [], _, h, _ => by simp [Op.bytesLess] at h
  | _, _ :: _, [], _, k => by simp [Op.bytesLess] at k
  | [], _ :: _, _ :: _, _, _ => by simp [Op.bytesLess]
  | a :: x, b :: y, c :: z, h, k => by
    rw [Op.bytesLess] at h k ⊢
    simp only [Bool.or_eq_true, Bool.and_eq_true, decide_eq_true_eq, beq_iff_eq] at h k ⊢
    rcases h with h | ⟨rfl, h⟩
    · rcases k with k | ⟨rfl, k⟩
      · left; rw [UInt8.lt_iff_toNat_lt] at *; omega
      · left; exact h
    · rcases k with k | ⟨rfl, k⟩
      · left; exact k
      · right; exact ⟨rfl, bl_trans x y z h k⟩

/-- One string before another. -/
def sLt (a b : ByteArray) : Bool := Op.bytesLess a.toList b.toList
def sLe (a b : ByteArray) : Bool := !sLt b a

theorem sLt_irrefl (a : ByteArray) : sLt a a = false := bl_irrefl _
theorem sLt_total {a b : ByteArray} (h : sLt a b = false) (k : sLt b a = false) : a = b := by
  have := bl_total _ _ h k
  rw [ByteArray.toList_eq, ByteArray.toList_eq] at this
  exact ByteArray.ext (Array.ext' this)
theorem sLt_trans {a b c : ByteArray} (h : sLt a b = true) (k : sLt b c = true) : sLt a c = true := bl_trans _ _ _ h k
theorem sLt_asymm {a b : ByteArray} (h : sLt a b = true) : sLt b a = false := by
  cases hb : sLt b a with
  | false => rfl
  | true => have := sLt_trans h hb; rw [sLt_irrefl] at this; cases this
theorem sLe_lt {a b c : ByteArray} (h : sLe a b = true) (k : sLt b c = true) : sLt a c = true := by
  simp only [sLe, Bool.not_eq_true'] at h
  cases hab : sLt a b with
  | true => exact sLt_trans hab k
  | false => rw [sLt_total hab h]; exact k
theorem sLt_le {a b c : ByteArray} (h : sLt a b = true) (k : sLe b c = true) : sLt a c = true := by
  simp only [sLe, Bool.not_eq_true'] at k
  cases hbc : sLt b c with
  | true => exact sLt_trans h hbc
  | false => rw [← sLt_total hbc k]; exact h
theorem sLe_trans (a b c : ByteArray) (h : sLe a b = true) (k : sLe b c = true) : sLe a c = true := by
  cases hc : sLt c a with
  | false => simp [sLe, hc]
  | true =>
    have h1 := sLt_le hc h
    simp only [sLe, Bool.not_eq_true'] at k
    rw [h1] at k; cases k
theorem sLe_tot (a b : ByteArray) : (sLe a b || sLe b a) = true := by
  cases h : sLt a b with
  | false => simp [sLe, h]
  | true => simp [sLe, sLt_asymm h]

/-- Sorted. -/
def Srt (xs : List ByteArray) : Prop := xs.Pairwise fun a b => sLe a b = true

theorem srt_merge (a b : List ByteArray) (ha : Srt a) (hb : Srt b) : Srt (a.merge b sLe) := List.pairwise_merge sLe_trans sLe_tot a b ha hb

theorem srt_at {xs : List ByteArray} (h : Srt xs) {i j : Nat} {a b : ByteArray} (hi : xs[i]? = some a) (hj : xs[j]? = some b) (hij : i ≤ j) : sLe a b = true := by
  rcases Nat.lt_or_eq_of_le hij with hlt | rfl
  · obtain ⟨h1, rfl⟩ := List.getElem?_eq_some_iff.1 hi
    obtain ⟨h2, rfl⟩ := List.getElem?_eq_some_iff.1 hj
    exact List.pairwise_iff_getElem.1 h i j h1 h2 hlt
  · rw [hi] at hj; simp at hj; subst hj; simp [sLe, sLt_irrefl]

/-- The binary search's answer. -/
theorem has_law {xs : List ByteArray} {x : ByteArray} {k : Nat} (hs : Srt xs) (h1 : ∀ i y, i < k → xs[i]? = some y → sLt y x = true) (h2 : ∀ i y, k ≤ i → xs[i]? = some y → sLt y x = false) : xs[k]? = some x ↔ x ∈ xs := by
  constructor
  · exact List.mem_of_getElem?
  · intro hm
    obtain ⟨i, hi⟩ := List.getElem?_of_mem hm
    have hik : k ≤ i := by
      rcases Nat.lt_or_ge i k with h | h
      · have := h1 i x h hi; rw [sLt_irrefl] at this; cases this
      · exact h
    have hlt := (List.getElem?_eq_some_iff.1 hi).1
    obtain ⟨y, hy⟩ : ∃ y, xs[k]? = some y := ⟨xs[k]'(by omega), by simp⟩
    have h3 := h2 k y (Nat.le_refl _) hy
    have h4 := srt_at hs hy hi hik
    simp only [sLe, Bool.not_eq_true'] at h4
    rw [hy, sLt_total h3 h4]

theorem nodup_srt : ∀ {xs : List ByteArray}, Srt xs → (∀ i a b, xs[i]? = some a → xs[i + 1]? = some b → a ≠ b) → xs.Nodup
  | [], _, _ => List.nodup_nil
  | [a], _, _ => by simp
  | a :: b :: r, h, hn => by
    have hab : a ≠ b := hn 0 a b rfl rfl
    have h' := List.pairwise_cons.1 h
    have hlt : sLt a b = true := by
      have := h'.1 b (by simp)
      simp only [sLe, Bool.not_eq_true'] at this
      cases hx : sLt a b with
      | true => rfl
      | false => exact absurd (sLt_total hx this) hab
    have hr := List.pairwise_cons.1 h'.2
    refine List.nodup_cons.2 ⟨fun hm => ?_, nodup_srt h'.2 (fun i x y hx hy => hn (i + 1) x y (by simpa using hx) (by simpa using hy))⟩
    rcases List.mem_cons.1 hm with e | hm
    · exact hab e
    · have := sLt_le hlt (hr.1 a hm)
      rw [sLt_irrefl] at this; cases this

theorem not_nodup {xs : List ByteArray} {i : Nat} {a : ByteArray} (h1 : xs[i]? = some a) (h2 : xs[i + 1]? = some a) : ¬ xs.Nodup := by
  intro h
  obtain ⟨q1, e1⟩ := List.getElem?_eq_some_iff.1 h1
  obtain ⟨q2, e2⟩ := List.getElem?_eq_some_iff.1 h2
  have := (List.pairwise_iff_getElem.1 h) i (i + 1) q1 q2 (by omega)
  exact this (by rw [e1, e2])
end Go.Proofs.Qxb6612546aFmt
