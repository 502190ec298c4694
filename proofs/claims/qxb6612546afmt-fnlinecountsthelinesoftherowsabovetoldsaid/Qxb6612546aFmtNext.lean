import Derived.Test.Qxb6612546aFmtRead
import Derived.Test.Qxb6612546aFmtPos
import Derived.Stop.Asserts
namespace Go.Proofs.Qxb6612546aFmt
open Go.RowKit

namespace Cs
/-- A record has no more fields than bytes and one. -/
theorem mach_len : ∀ (l : List UInt8) (m : Nat) (acc : List UInt8) (fs : List (List UInt8)) (st ln : Nat), ∀ r ∈ (mach m acc fs st ln l).1, r.1.length ≤ fs.length + l.length + 1 := by
  intro l
  induction l with
  | nil =>
    intro m acc fs st ln r hr
    rw [mach] at hr
    split at hr
    · simp at hr
    · split at hr
      · simp at hr
      · simp at hr; subst hr; simp
  | cons c l ih =>
    have hi : ∀ (m : Nat) (acc : List UInt8) (fs fs' : List (List UInt8)) (st ln : Nat), ∀ r ∈ (mach m acc fs' st ln l).1, fs'.length ≤ fs.length + 1 → r.1.length ≤ fs.length + (c :: l).length + 1 := by
      intro m acc fs fs' st ln r hr hf
      have := ih m acc fs' st ln r hr
      simp only [List.length_cons]
      omega
    intro m acc fs st ln r hr
    rw [mach] at hr
    split at hr
    · split at hr
      · exact hi _ _ fs [] _ _ r hr (by simp)
      · split at hr
        · exact hi _ _ fs [] _ _ r hr (by simp)
        · split at hr
          · exact hi _ _ fs [[]] _ _ r hr (by simp)
          · exact hi _ _ fs [] _ _ r hr (by simp)
    · split at hr
      · split at hr
        · exact hi _ _ fs fs _ _ r hr (by simp)
        · exact hi _ _ fs fs _ _ r hr (by simp)
      · split at hr
        · split at hr
          · exact hi _ _ fs fs _ _ r hr (by simp)
          · split at hr
            · exact hi _ _ fs fs _ _ r hr (by simp)
            · simp at hr
        · split at hr
          · exact hi _ _ fs (fs ++ [acc]) _ _ r hr (by simp)
          · split at hr
            · simp only [List.mem_cons] at hr
              rcases hr with rfl | hr
              · simp
              · exact hi _ _ fs [] _ _ r hr (by simp)
            · split at hr
              · simp at hr
              · exact hi _ _ fs fs _ _ r hr (by simp)

theorem norm_len : ∀ l : List UInt8, (norm l).length ≤ l.length
  | [] => by simp [norm]
  | [c] => by rw [norm]; split <;> simp
  | c :: d :: r => by
    have := norm_len (d :: r)
    rw [norm]
    split
    · simp only [List.length_cons] at this ⊢; omega
    · simp only [List.length_cons] at this ⊢; omega
end Cs

/-- The table's reader: T is the block of its struct. -/
structure TRx (w : World) (N T : Nat) (s : ByteArray) (P : List UInt8) (ea : Addr) (fpr : Int) (nl st : Nat) (rcv raw rec fi fp : Value) (a0 : Option Addr) (n0 c0 : Nat) (kv iv : Value) (k : Nat) (cells : List Value) : Prop where
  r0 : R0 w N s P ea fpr nl raw rec fi fp (.slice a0 n0 c0) (.slice a0 n0 c0)
  tb : w.heap[T]? = some (.cells #[.pointer (some ⟨N + 3, 0, none⟩), kv, iv, rcv] 59 (0, 0))
  hT : N + 4 ≤ T
  off : ∀ v ∈ [raw, rec, fi, fp, .slice a0 n0 c0], v.ownBlock ≠ some T
  rfp : w.ownsRow (N + 4) 82 2 fp k cells
  hk : 0 < k
  hkb : k ≤ 1048576000
  h0 : cells[0]? = some (intV st)

def TR (w : World) (N T : Nat) (s : ByteArray) (P : List UInt8) (ea : Addr) (fpr : Int) (nl st : Nat) (rcv : Value) : Prop :=
  ∃ raw rec fi fp a0 n0 c0 kv iv k cells, TRx w N T s P ea fpr nl st rcv raw rec fi fp a0 n0 c0 kv iv k cells

set_option maxRecDepth 100000 in
set_option maxHeartbeats 1000000 in
theorem line_any (N T : Nat) (s : ByteArray) (P : List UInt8) (ea : Addr) (fpr : Int) (nl st : Nat) (rcv : Value) (w : World) (h : TR w N T s P ea fpr nl st rcv) :
    Calls Tryf.prog 29 #[.pointer (some ⟨T, 0, none⟩)] w fun e w' => e = .returned (.int .i64 st) ∧ Below w.heap.size w w' := by
  obtain ⟨raw, rec, fi, fp, a0, n0, c0, kv, iv, k, cells, h⟩ := h
  have hc : w.cell? ⟨T, 0, none⟩ = some (.pointer (some ⟨N + 3, 0, none⟩)) := by rw [cell_of_row w _ _ _ _ _ h.tb]; rfl
  obtain ⟨i, r, n, e, bs, pr, lb, lr, off, m, xs, hR⟩ := h.r0.rd
  have HC := hide (fieldPos_any N k st fpr nl off raw rec fi fp _ cells w hR.csv h.rfp h.hk h.hkb h.h0)
  clear h hR
  go_enter Tryf.func29, Tryf.ntmps29
  go_wp2_with fail
  refine (unhide HC).mono ?_
  rintro en w1 ⟨u, rfl, hb⟩
  clear HC
  have hb' := hide hb
  clear hb
  go_wp2
  go_ret
  exact ⟨rfl, unhide hb'⟩

set_option maxRecDepth 100000 in
set_option maxHeartbeats 1000000 in
theorem record_any (N T : Nat) (s : ByteArray) (P : List UInt8) (ea : Addr) (fpr : Int) (nl st : Nat) (rcv : Value) (w : World) (h : TR w N T s P ea fpr nl st rcv) :
    Calls Tryf.prog 18 #[.pointer (some ⟨T, 0, none⟩)] w fun e w' => e = .returned rcv ∧ w' = w := by
  obtain ⟨raw, rec, fi, fp, a0, n0, c0, kv, iv, k, cells, h⟩ := h
  have hc : w.cell? ⟨T, 3, none⟩ = some rcv := by rw [cell_of_row w _ _ _ _ _ h.tb]; rfl
  clear h
  go_enter Tryf.func18, Tryf.ntmps18
  go_wp2
  go_ret
  exact ⟨rfl, rfl⟩

theorem eql_types (w : World) (p q : Value) : (binOp .eql 33 (.iface 98 p) (.iface 84 q)).run Tryf.prog w = .ok (.bool false) w := by
  obtain ⟨ms, h1⟩ := Tryf.und33
  exact run_eql_iface_types 98 84 _ _ h1 (by decide) w

set_option maxRecDepth 100000 in
set_option maxHeartbeats 1000000 in
theorem isEOF_yes (N : Nat) (ea fa : Addr) (w : World) (h : Env w N ea fa) : Calls Tryf.prog 16 #[.iface 84 (.pointer (some ea))] w fun e w' => e = .returned (.bool true) ∧ w' = w := by
  have h0 := h.glob.eof
  have h1 := eql_same w ea
  clear h
  go_enter Tryf.func16, Tryf.ntmps16
  go_wp2
  go_ret
  exact ⟨rfl, rfl⟩

set_option maxRecDepth 100000 in
set_option maxHeartbeats 1000000 in
theorem isEOF_no (N : Nat) (ea fa : Addr) (p : Value) (w : World) (h : Env w N ea fa) : Calls Tryf.prog 16 #[.iface 98 p] w fun e w' => e = .returned (.bool false) ∧ w' = w := by
  have h0 := h.glob.eof
  have h1 := eql_types w p (.pointer (some ea))
  clear h
  go_enter Tryf.func16, Tryf.ntmps16
  go_wp2
  go_ret
  exact ⟨rfl, rfl⟩

/-- What Next leaves, the reader's width known. -/
def NextPost (N T : Nat) (s : ByteArray) (P : List UInt8) (ea : Addr) (fpr : Int) (nl : Nat) (w : World) (en : Ending) (w' : World) : Prop :=
  Below N w w' ∧
    ((Cs.mach 4 [] [] 0 (nl + 1) (Cs.norm P) = ([], false) ∧ en = .returned (.iface 84 (.pointer (some ea)))) ∨
     (Cs.mach 4 [] [] 0 (nl + 1) (Cs.norm P) = ([], true) ∧ ∃ p, en = .returned (.iface 98 (.pointer (some p)))) ∨
     (∃ (x : List (List UInt8)) (st : Nat) (P' : List UInt8) (nl' : Nat),
       Cs.mach 4 [] [] 0 (nl + 1) (Cs.norm P) = ((x, st) :: (Cs.mach 4 [] [] 0 (nl' + 1) (Cs.norm P')).1, (Cs.mach 4 [] [] 0 (nl' + 1) (Cs.norm P')).2) ∧ nl' + P'.length ≤ nl + P.length ∧
       (((x.length : Int) ≠ fpr ∧ ∃ p, en = .returned (.iface 98 (.pointer (some p)))) ∨
        ((x.length : Int) = fpr ∧ en = .returned .nilIface ∧ ∃ rcv, TR w' N T s P' ea fpr nl' st rcv ∧ StrS w' rcv (strsOf x)))))

end Go.Proofs.Qxb6612546aFmt
