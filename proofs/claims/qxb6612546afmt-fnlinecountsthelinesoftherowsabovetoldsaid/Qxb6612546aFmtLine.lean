import Derived.Test.Qxb6612546aFmtSlice2
namespace Go.Proofs.Qxb6612546aFmt
open Go.RowKit

namespace Cs
theorem norm_nolf : ∀ l : List UInt8, (10 : UInt8) ∉ l → norm l = if l.getLast? = some 13 then l.dropLast else l
  | [], _ => rfl
  | [c], _ => by by_cases h : c = 13 <;> simp [norm, h]
  | c :: d :: r, h => by
    have h1 : (10 : UInt8) ∉ d :: r := fun e => h (by simp at e ⊢; right; exact e)
    have hd : d ≠ 10 := fun e => h1 (by simp [e])
    rw [norm, if_neg (fun e => hd e.2), norm_nolf (d :: r) h1, List.getLast?_cons_cons]
    split <;> simp

theorem norm_line (a : List UInt8) (h : (10 : UInt8) ∉ a) : norm (a ++ [10]) = (if a.getLast? = some 13 then a.dropLast else a) ++ [10] := by
  induction a with
  | nil => rfl
  | cons c r ih =>
    have h1 : (10 : UInt8) ∉ r := fun e => h (by simp [e])
    cases r with
    | nil => by_cases hc : c = 13 <;> simp [norm, hc]
    | cons d r =>
      have hd : d ≠ 10 := fun e => h1 (by simp [e])
      rw [List.cons_append, List.cons_append, norm, if_neg (fun e => hd e.2), ← List.cons_append, ih h1, List.getLast?_cons_cons]
      split <;> simp

theorem cut_line : ∀ (a p : List UInt8), (10 : UInt8) ∉ a → cutLine (a ++ 10 :: p) = (a ++ [10], p)
  | [], p, _ => by simp [cutLine]
  | c :: a, p, h => by
    have hc : c ≠ 10 := fun e => h (by simp [e])
    have ha : (10 : UInt8) ∉ a := fun e => h (by simp [e])
    rw [List.cons_append, cutLine, if_neg hc, cut_line a p ha]
    rfl

theorem cut_last : ∀ (a : List UInt8), (10 : UInt8) ∉ a → cutLine a = (a, [])
  | [], _ => rfl
  | c :: a, h => by
    have hc : c ≠ 10 := fun e => h (by simp [e])
    have ha : (10 : UInt8) ∉ a := fun e => h (by simp [e])
    rw [cutLine, if_neg hc, cut_last a ha]
end Cs

/-- The csv reader's own struct. -/
structure Csv (w : World) (N : Nat) (fpr : Int) (nl off : Int) (raw rec fi fp last : Value) : Prop where
  block : w.heap[N + 3]? = some (.cells #[.int .i32 44, .int .i32 0, .int .i64 fpr, .bool false, .bool false, .bool true, .bool false, .pointer (some ⟨N + 1, 0, none⟩), .int .i64 nl, .int .i64 off, raw, rec, fi, fp, last] 73 (0, 0))

theorem Csv.cells {w : World} {N : Nat} {fpr nl off : Int} {raw rec fi fp last : Value} (h : Csv w N fpr nl off raw rec fi fp last) :
    w.cell? ⟨N + 3, 0, none⟩ = some (.int .i32 44) ∧ w.cell? ⟨N + 3, 1, none⟩ = some (.int .i32 0) ∧ w.cell? ⟨N + 3, 2, none⟩ = some (.int .i64 fpr) ∧ w.cell? ⟨N + 3, 3, none⟩ = some (.bool false) ∧ w.cell? ⟨N + 3, 4, none⟩ = some (.bool false) ∧
    w.cell? ⟨N + 3, 5, none⟩ = some (.bool true) ∧ w.cell? ⟨N + 3, 7, none⟩ = some (.pointer (some ⟨N + 1, 0, none⟩)) ∧ w.cell? ⟨N + 3, 8, none⟩ = some (.int .i64 nl) ∧ w.cell? ⟨N + 3, 9, none⟩ = some (.int .i64 off) ∧ w.cell? ⟨N + 3, 10, none⟩ = some raw ∧
    w.cell? ⟨N + 3, 11, none⟩ = some rec ∧ w.cell? ⟨N + 3, 12, none⟩ = some fi ∧ w.cell? ⟨N + 3, 13, none⟩ = some fp ∧ w.cell? ⟨N + 3, 14, none⟩ = some last := by
  refine ⟨?_, ?_, ?_, ?_, ?_, ?_, ?_, ?_, ?_, ?_, ?_, ?_, ?_, ?_⟩ <;> rw [cell_of_row w _ _ _ _ _ h.block] <;> rfl

theorem Csv.frozen {w : World} {N : Nat} {fpr nl off : Int} {raw rec fi fp last : Value} (h : Csv w N fpr nl off raw rec fi fp last) (j : Nat) : w.frozen? ⟨N + 3, j, none⟩ = false := frozen_of_row w _ _ _ _ h.block

theorem Csv.fr {S : Nat → Prop} {w w' : World} {N : Nat} {fpr nl off : Int} {raw rec fi fp last : Value} (h : Csv w N fpr nl off raw rec fi fp last) (hf : Fr S w w') (hS : ¬ S (N + 3)) : Csv w' N fpr nl off raw rec fi fp last := ⟨hf.heap h.block hS⟩

theorem Csv.set_nl {w : World} {N : Nat} {fpr nl off : Int} {raw rec fi fp last : Value} (h : Csv w N fpr nl off raw rec fi fp last) (x : Int) : Csv (w.setCell ⟨N + 3, 8, none⟩ (.int .i64 x)) N fpr x off raw rec fi fp last := ⟨by rw [heap_setCell_same w _ _ _ _ _ h.block]; rfl⟩
theorem Csv.set_off {w : World} {N : Nat} {fpr nl off : Int} {raw rec fi fp last : Value} (h : Csv w N fpr nl off raw rec fi fp last) (x : Int) : Csv (w.setCell ⟨N + 3, 9, none⟩ (.int .i64 x)) N fpr nl x raw rec fi fp last := ⟨by rw [heap_setCell_same w _ _ _ _ _ h.block]; rfl⟩
theorem Csv.set_raw {w : World} {N : Nat} {fpr nl off : Int} {raw rec fi fp last : Value} (h : Csv w N fpr nl off raw rec fi fp last) (x : Value) : Csv (w.setCell ⟨N + 3, 10, none⟩ x) N fpr nl off x rec fi fp last := ⟨by rw [heap_setCell_same w _ _ _ _ _ h.block]; rfl⟩
theorem Csv.set_rec {w : World} {N : Nat} {fpr nl off : Int} {raw rec fi fp last : Value} (h : Csv w N fpr nl off raw rec fi fp last) (x : Value) : Csv (w.setCell ⟨N + 3, 11, none⟩ x) N fpr nl off raw x fi fp last := ⟨by rw [heap_setCell_same w _ _ _ _ _ h.block]; rfl⟩
theorem Csv.set_fi {w : World} {N : Nat} {fpr nl off : Int} {raw rec fi fp last : Value} (h : Csv w N fpr nl off raw rec fi fp last) (x : Value) : Csv (w.setCell ⟨N + 3, 12, none⟩ x) N fpr nl off raw rec x fp last := ⟨by rw [heap_setCell_same w _ _ _ _ _ h.block]; rfl⟩
theorem Csv.set_fp {w : World} {N : Nat} {fpr nl off : Int} {raw rec fi fp last : Value} (h : Csv w N fpr nl off raw rec fi fp last) (x : Value) : Csv (w.setCell ⟨N + 3, 13, none⟩ x) N fpr nl off raw rec fi x last := ⟨by rw [heap_setCell_same w _ _ _ _ _ h.block]; rfl⟩
theorem Csv.set_last {w : World} {N : Nat} {fpr nl off : Int} {raw rec fi fp last : Value} (h : Csv w N fpr nl off raw rec fi fp last) (x : Value) : Csv (w.setCell ⟨N + 3, 14, none⟩ x) N fpr nl off raw rec fi fp x := ⟨by rw [heap_setCell_same w _ _ _ _ _ h.block]; rfl⟩
theorem Csv.set_fpr {w : World} {N : Nat} {fpr nl off : Int} {raw rec fi fp last : Value} (h : Csv w N fpr nl off raw rec fi fp last) (x : Int) : Csv (w.setCell ⟨N + 3, 2, none⟩ (.int .i64 x)) N x nl off raw rec fi fp last := ⟨by rw [heap_setCell_same w _ _ _ _ _ h.block]; rfl⟩

/-- The reading side as a whole: P is what is still to be read. -/
structure Rd (w : World) (N : Nat) (s : ByteArray) (P : List UInt8) (ea : Addr) (fpr : Int) (nl : Nat) (raw rec fi fp last : Value) (i r n : Nat) (e : Value) (bs : List UInt8) (pr lb lr off : Int) (m : Nat) (xs : List Value) : Prop where
  buf : Buf w N s i r n e bs pr lb lr
  err : BErr s i e ea
  pnd : P = pend s i r n bs
  csv : Csv w N fpr nl off raw rec fi fp last
  row : w.ownsRow (N + 4) 5 1 raw m xs

def RdS (w : World) (N : Nat) (s : ByteArray) (P : List UInt8) (ea : Addr) (fpr : Int) (nl : Nat) (raw rec fi fp last : Value) : Prop :=
  ∃ i r n e bs pr lb lr off m xs, Rd w N s P ea fpr nl raw rec fi fp last i r n e bs pr lb lr off m xs

/-- What readLine may write. -/
def LineS (N : Nat) (raw : Value) (k : Nat) : Prop := BufS N k ∨ k = N + 3 ∨ raw.ownBlock = some k

/-- A row's block is the old one or a new one. -/
def NewOr (w : World) (v v' : Value) : Prop := v'.ownBlock = v.ownBlock ∨ ∃ g, v'.ownBlock = some g ∧ w.heap.size ≤ g

/-- The line's bytes: where they lie. -/
structure LineAt (w : World) (N : Nat) (raw : Value) (g o c : Nat) (l : List UInt8) : Prop where
  cap : l.length ≤ c
  bytes : BytAt w (some ⟨g, o, none⟩) l
  blk : l ≠ [] → g = N + 2 ∨ raw.ownBlock = some g

def LinePost (N : Nat) (s : ByteArray) (P : List UInt8) (ea : Addr) (fpr : Int) (nl : Nat) (raw rec fi fp last : Value) (w : World) (en : Ending) (w' : World) : Prop :=
  ∃ (raw' : Value) (P' l : List UInt8) (ev : Value) (g o c : Nat), en = .returned (.tuple #[.slice (some ⟨g, o, none⟩) l.length c, ev]) ∧ LineAt w' N raw' g o c l ∧ RdS w' N s P' ea fpr (nl + 1) raw' rec fi fp last ∧
    Fr (LineS N raw) w w' ∧ NewOr w raw raw' ∧ ((P = [] ∧ l = [] ∧ P' = [] ∧ ev = .iface 84 (.pointer (some ea))) ∨ (P ≠ [] ∧ ev = .nilIface ∧ l = Cs.norm (Cs.cutLine P).1 ∧ P' = (Cs.cutLine P).2))

/-- A reslice from the head: nothing is in it. -/
theorem own_zero {w : World} {base e n cap : Nat} {a : Option Addr} {xs : List Value} (h : w.ownsRow base e 1 (.slice a n cap) n xs) : w.ownsRow base e 1 (.slice a 0 cap) 0 [] := by
  refine ⟨rfl, ?_⟩
  rcases h.2 with ⟨h0, _⟩ | ⟨g, cap', cur, h0, hb, hg, h1, h2, h3, _⟩
  · simp only [Value.slice.injEq] at h0
    exact .inl ⟨by rw [h0.1, h0.2.2], rfl⟩
  · simp only [Value.slice.injEq] at h0
    exact .inr ⟨g, cap', cur, by rw [h0.1, h0.2.2], hb, hg, Nat.zero_le _, h2, h3, by simp⟩
end Go.Proofs.Qxb6612546aFmt
