import Derived.Test.Qxb6609067aFmtPairs
namespace Go.Proofs.Qxb6609067aFmt
open Go.RowKit

/-- The instruction in block B. -/
structure Inst (w : World) (B : Nat) (line : Int) (kw ar : ByteArray) (vE vF vW vP : Value) : Prop where
  block : w.heap[B]? = some (.cells #[.int .i64 line, .string kw, .string ar, vE, vF, vW, vP] 38 (0, 0))

theorem Inst.cell {w : World} {B : Nat} {line : Int} {kw ar : ByteArray} {vE vF vW vP : Value} (h : Inst w B line kw ar vE vF vW vP) :
    w.cell? ⟨B, 0, none⟩ = some (.int .i64 line) ∧ w.cell? ⟨B, 1, none⟩ = some (.string kw) ∧ w.cell? ⟨B, 2, none⟩ = some (.string ar) ∧ w.cell? ⟨B, 3, none⟩ = some vE ∧ w.cell? ⟨B, 4, none⟩ = some vF ∧ w.cell? ⟨B, 5, none⟩ = some vW ∧ w.cell? ⟨B, 6, none⟩ = some vP := by
  refine ⟨?_, ?_, ?_, ?_, ?_, ?_, ?_⟩ <;> rw [cell_of_row w B _ _ _ _ h.block] <;> rfl

theorem Inst.frozen {w : World} {B : Nat} {line : Int} {kw ar : ByteArray} {vE vF vW vP : Value} (h : Inst w B line kw ar vE vF vW vP) (j : Nat) : w.frozen? ⟨B, j, none⟩ = false := frozen_of_row w B j _ _ h.block

set_option maxHeartbeats 400000 in
theorem sameBut_any (B : Nat) (line : Int) (kw ar : ByteArray) (e1 e2 f1 f2 : Option Addr) (n m c1 c2 d1 d2 : Nat) (vW vP : Value) (xs ys : List ByteArray) (w : World) (hI : Inst w B line kw ar (.slice e1 n c1) (.slice f1 m d1) vW vP)
    (h1 : StrS w (.slice e1 n c1) xs) (h2 : StrS w (.slice e2 n c2) xs) (h3 : StrS w (.slice f1 m d1) ys) (h4 : StrS w (.slice f2 m d2) ys) (hn : n ≤ 1048576) (hm : m ≤ 1048576) (hne : e1.isNone = e2.isNone) (hnf : f1.isNone = f2.isNone) :
    Calls Tryf.prog 14 #[.pointer (some ⟨B, 0, none⟩), .int .i64 line, .string kw, .string ar, .slice e2 n c2, .slice f2 m d2] w (TruePost w) := by
  obtain ⟨i0, i1, i2, i3, i4, _, _⟩ := hI.cell
  have H1 := hide (sameStrings_any e1 e2 n c1 c2 xs w h1 h2 hn hne)
  clear hI hne h1 h2
  go_enter Tryf.func14, Tryf.ntmps14
  go_wp2_with fail
  refine (unhide H1).mono ?_
  rintro e w' ⟨rfl, n1, rfl⟩
  have H2 := hide (sameStrings_any f1 f2 m d1 d2 ys (w.drewN n1) h3 h4 hm hnf)
  clear h3 h4 hnf H1
  go_wp2_with fail
  refine (unhide H2).mono ?_
  rintro e w' ⟨rfl, n2, rfl⟩
  go_wp2
  go_ret
  exact ⟨rfl, _, rfl⟩
end Go.Proofs.Qxb6609067aFmt
