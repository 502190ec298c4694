import Derived.Test.Qxb6612546aFmtSt2
import Derived.Test.Qxb6612546aFmtLine2
namespace Go.Proofs.Qxb6612546aFmt
open Go.RowKit

namespace Cs
/-- A line as readLine hands it: a line feed only at its end; if it has none, nothing follows. -/
def LnOK (l P : List UInt8) : Prop := ((10 : UInt8) ∉ l ∧ P = []) ∨ ∃ a, l = a ++ [10] ∧ (10 : UInt8) ∉ a

theorem line_shape (P : List UInt8) (hP : P ≠ []) : norm P = norm (cutLine P).1 ++ norm (cutLine P).2 ∧ (cutLine P).2.length < P.length ∧ LnOK (norm (cutLine P).1) (cutLine P).2 := by
  refine ⟨norm_cut P, ?_, ?_⟩
  · cases P with
    | nil => exact absurd rfl hP
    | cons c r =>
      have h := congrArg List.length (cut_append (c :: r))
      rw [List.length_append] at h
      have h1 : (cutLine (c :: r)).1 ≠ [] := by rw [cutLine]; split <;> simp
      have := List.length_pos_iff.2 h1
      omega
  · by_cases h : (10 : UInt8) ∈ P
    · obtain ⟨a, b, rfl, ha⟩ : ∃ a b, P = a ++ 10 :: b ∧ (10 : UInt8) ∉ a := by
        clear hP
        induction P with
        | nil => simp at h
        | cons c r ih =>
          by_cases hc : c = 10
          · exact ⟨[], r, by rw [hc]; rfl, by simp⟩
          · obtain ⟨a, b, h1, h2⟩ := ih (by simp at h; rcases h with e | e; exact absurd e.symm hc; exact e)
            exact ⟨c :: a, b, by rw [h1]; rfl, by simp; exact ⟨fun e => hc e.symm, h2⟩⟩
      rw [cut_line a b ha, norm_line a ha]
      refine .inr ⟨_, rfl, ?_⟩
      split
      · exact fun hm => ha ((List.dropLast_sublist _).subset hm)
      · exact ha
    · rw [cut_last P h, norm_nolf P h]
      refine .inl ⟨?_, rfl⟩
      split
      · exact fun hm => h ((List.dropLast_sublist _).subset hm)
      · exact h

theorem norm_length : ∀ l, (norm l).length ≤ l.length
  | [] => by simp [norm]
  | [c] => by by_cases h : c = 13 <;> simp [norm, h]
  | c :: d :: r => by
    have := norm_length (d :: r)
    rw [norm]
    split
    · simp at this ⊢; omega
    · simp at this ⊢; omega

theorem line_length (P : List UInt8) : (norm (cutLine P).1).length ≤ P.length := by
  have h1 := norm_length (cutLine P).1
  have h2 := congrArg List.length (cut_append P)
  rw [List.length_append] at h2
  omega

/-- A blank line is passed over. -/
theorem mach4_blank {P : List UInt8} (hP : P ≠ []) (hl : norm (cutLine P).1 = [] ∨ norm (cutLine P).1 = [10]) (ln : Nat) : mach 4 [] [] 0 ln (norm P) = mach 4 [] [] 0 (ln + 1) (norm (cutLine P).2) := by
  obtain ⟨h1, _, h3⟩ := line_shape P hP
  rw [h1]
  rcases hl with h | h
  · rw [h] at h3 ⊢
    rcases h3 with ⟨_, h4⟩ | ⟨a, h4, _⟩
    · rw [h4]; simp [norm, mach]
    · simp at h4
  · rw [h]; simp [mach]

/-- A line that is not blank begins a record. -/
theorem mach4_start {P : List UInt8} (hP : P ≠ []) (hl : norm (cutLine P).1 ≠ []) (hl2 : norm (cutLine P).1 ≠ [10]) (ln : Nat) : mach 4 [] [] 0 ln (norm P) = mach 0 [] [] ln ln (norm (cutLine P).1 ++ norm (cutLine P).2) := by
  obtain ⟨h1, _, h3⟩ := line_shape P hP
  rw [h1]
  cases hc : norm (cutLine P).1 with
  | nil => exact absurd hc hl
  | cons c r =>
    have hc10 : c ≠ 10 := by
      rintro rfl
      rw [hc] at h3 hl2
      rcases h3 with ⟨h4, _⟩ | ⟨a, h4, h5⟩
      · simp at h4
      · cases a with
        | nil => simp at h4; exact hl2 (by rw [h4])
        | cons x a => simp at h4; exact h5 (by simp [h4.1])
    rw [List.cons_append, mach4_go _ _ _ _ _ _ hc10]
end Cs

theorem nlOf_eq {l P : List UInt8} (h : Cs.LnOK l P) : (l.length = nlOf l ↔ l = [] ∨ l = [10]) := by
  unfold nlOf
  rcases h with ⟨h1, _⟩ | ⟨a, rfl, h1⟩
  · rw [if_neg]
    · constructor
      · intro e; left; exact List.eq_nil_of_length_eq_zero e
      · rintro (rfl | rfl)
        · rfl
        · simp at h1
    · intro e
      exact h1 (List.mem_of_getLast? e)
  · simp

/-- The rows of the reader between two records: lst is the row of strings last handed out. -/
structure R0 (w : World) (N : Nat) (s : ByteArray) (P : List UInt8) (ea : Addr) (fpr : Int) (nl : Nat) (raw rec fi fp last lst : Value) : Prop where
  rd : RdS w N s P ea fpr nl raw rec fi fp last
  rrec : ∃ k xs, w.ownsRow (N + 4) 5 1 rec k xs
  rfi : ∃ k xs, w.ownsRow (N + 4) 3 1 fi k xs
  rfp : ∃ k xs, w.ownsRow (N + 4) 82 2 fp k xs
  rlst : ∃ k xs, w.ownsRow (N + 4) 9 1 lst k xs
  sep : Sep [raw, rec, fi, fp, lst]
  lies : Lies (N + 4) w.heap.size [raw, rec, fi, fp, lst]

theorem R0.bound {w : World} {N : Nat} {s : ByteArray} {P : List UInt8} {ea : Addr} {fpr : Int} {nl : Nat} {raw rec fi fp last : Value} (h : RdS w N s P ea fpr nl raw rec fi fp last) : P.length ≤ 4198400 ∧ N + 4 ≤ w.heap.size := by
  obtain ⟨i, r, n, e, bs, pr, lb, lr, off, m, xs, hR⟩ := h
  have := hR.buf.hn; have := hR.buf.hs; have := (Array.getElem?_eq_some_iff.1 hR.csv.block).1
  rw [hR.pnd, pend_length hR.buf]
  omega

theorem own_shapeN {w : World} {base e sz n : Nat} {v : Value} {xs : List Value} (h : w.ownsRow base e sz v n xs) : ∃ a c, v = .slice a n c := by
  rcases h.2 with ⟨h0, h1⟩ | ⟨g, cap, cur, h0, _⟩
  · exact ⟨none, 0, by rw [h0, h1]⟩
  · exact ⟨_, _, h0⟩

theorem own_zeroN {w : World} {base e sz n cap : Nat} {a : Option Addr} {xs : List Value} (h : w.ownsRow base e sz (.slice a n cap) n xs) : w.ownsRow base e sz (.slice a 0 cap) 0 [] := by
  refine ⟨by simp, ?_⟩
  rcases h.2 with ⟨h0, _⟩ | ⟨g, cap', cur, h0, hb, hg, h1, h2, h3, _⟩
  · simp only [Value.slice.injEq] at h0
    exact .inl ⟨by rw [h0.1, h0.2.2], rfl⟩
  · simp only [Value.slice.injEq] at h0
    exact .inr ⟨g, cap', cur, by rw [h0.1, h0.2.2], hb, hg, Nat.zero_le _, h2, h3, by simp⟩

theorem ownBlock_zero (a : Option Addr) (n c : Nat) : (Value.slice a 0 c).ownBlock = (Value.slice a n c).ownBlock := by cases a <;> rfl

/-- What the loop over blank lines knows. -/
def L1 (N : Nat) (s : ByteArray) (P : List UInt8) (ea : Addr) (fpr : Int) (nl : Nat) (raw rec fi fp last : Value) (M : List (List (List UInt8) × Nat) × Bool) (w : World) (k : Nat) (wr : World) : Prop :=
  ∃ (P1 : List UInt8) (nl1 : Nat) (raw1 : Value), RdS wr N s P1 ea fpr nl1 raw1 rec fi fp last ∧ Fr (LineS N raw) w wr ∧ NewOr w raw raw1 ∧ Cs.mach 4 [] [] 0 (nl1 + 1) (Cs.norm P1) = M ∧ P1.length < k ∧ nl1 + P1.length ≤ nl + P.length
end Go.Proofs.Qxb6612546aFmt
