import Derived.Test.Qxb6612546aFmtRec
namespace Go.Proofs.Qxb6612546aFmt
open Go.RowKit

/-- What Read leaves: as readRecord, the row handed out noted in the reader. -/
def ReadPost1 (N : Nat) (s : ByteArray) (P : List UInt8) (ea : Addr) (fpr : Int) (nl : Nat) (raw rec fi fp lst : Value) (w : World) (en : Ending) (w' : World) : Prop :=
  ∃ (aD : Option Addr) (kD cD : Nat) (dv ev : Value), dv = .slice aD kD cD ∧ en = .returned (.tuple #[dv, ev]) ∧ Fr (OwnS N [raw, rec, fi, fp, lst]) w w' ∧
    ((Cs.mach 4 [] [] 0 (nl + 1) (Cs.norm P) = ([], false) ∧ ev = .iface 84 (.pointer (some ea))) ∨
     (Cs.mach 4 [] [] 0 (nl + 1) (Cs.norm P) = ([], true) ∧ ∃ p, ev = .iface 98 (.pointer (some p))) ∨
     (∃ (x : List (List UInt8)) (st : Nat) (P' : List UInt8) (nl' : Nat) (fpr' : Int) (raw' rec' fi' fp' : Value) (cells : List Value),
       Cs.mach 4 [] [] 0 (nl + 1) (Cs.norm P) = ((x, st) :: (Cs.mach 4 [] [] 0 (nl' + 1) (Cs.norm P')).1, (Cs.mach 4 [] [] 0 (nl' + 1) (Cs.norm P')).2) ∧ 0 < x.length ∧
       R0 w' N s P' ea fpr' nl' raw' rec' fi' fp' dv dv ∧ (∀ v ∈ [raw', rec', fi', fp', dv], ∀ g, v.ownBlock = some g → (∃ v0 ∈ [raw, rec, fi, fp, lst], v0.ownBlock = some g) ∨ w.heap.size ≤ g) ∧
       w'.ownsRow (N + 4) 9 1 dv x.length ((strsOf x).map Value.string) ∧ w'.ownsRow (N + 4) 82 2 fp' x.length cells ∧ cells[0]? = some (intV st) ∧ nl' + P'.length ≤ nl + P.length ∧
       ((fpr = 0 ∧ fpr' = x.length ∧ ev = .nilIface) ∨ (fpr ≠ 0 ∧ fpr' = fpr ∧ ((x.length = fpr ∧ ev = .nilIface) ∨ ((x.length : Int) ≠ fpr ∧ ∃ p, ev = .iface 98 (.pointer (some p))))))))

/-- The last row handed out, noted. -/
theorem R0.setlast {w : World} {N : Nat} {s : ByteArray} {P : List UInt8} {ea : Addr} {fpr : Int} {nl : Nat} {raw rec fi fp last lst : Value} (h : R0 w N s P ea fpr nl raw rec fi fp last lst) : R0 (w.setCell ⟨N + 3, 14, none⟩ lst) N s P ea fpr nl raw rec fi fp lst lst := by
  have hF := fr_setCell w (N + 3) 14 lst
  have hsz : w.heap.size = (w.setCell ⟨N + 3, 14, none⟩ lst).heap.size := by simp [World.setCell]
  have key : ∀ {Y : Value} {e sz n : Nat} {xs : List Value}, w.ownsRow (N + 4) e sz Y n xs → ∀ k, Y.ownBlock = some k → ¬ k = N + 3 := fun ho k hk e => by have := (ho.lt k hk).1; omega
  obtain ⟨i, r, n, e, bs, pr, lb, lr, off, m, xs, hR⟩ := h.rd
  obtain ⟨a1, b1, h1⟩ := h.rrec
  obtain ⟨a2, b2, h2⟩ := h.rfi
  obtain ⟨a3, b3, h3⟩ := h.rfp
  obtain ⟨a4, b4, h4⟩ := h.rlst
  exact ⟨⟨i, r, n, e, bs, pr, lb, lr, off, m, xs, hR.buf.fr hF (by simp [BufS]), hR.err, hR.pnd, hR.csv.set_last lst, Fr.own hR.row hF (key hR.row)⟩, ⟨a1, b1, Fr.own h1 hF (key h1)⟩, ⟨a2, b2, Fr.own h2 hF (key h2)⟩, ⟨a3, b3, Fr.own h3 hF (key h3)⟩, ⟨a4, b4, Fr.own h4 hF (key h4)⟩, h.sep, by rw [← hsz]; exact h.lies⟩

set_option maxRecDepth 100000 in
set_option maxHeartbeats 1000000 in
theorem read_any (N : Nat) (s : ByteArray) (P : List UInt8) (ea fa : Addr) (fpr : Int) (nl : Nat) (raw rec fi fp : Value) (a0 : Option Addr) (n0 c0 : Nat) (w : World) (h : R0 w N s P ea fpr nl raw rec fi fp (.slice a0 n0 c0) (.slice a0 n0 c0))
    (hE : Env w N ea fa) (hnl : nl ≤ 900000000) (hfpr : 0 ≤ fpr ∧ fpr ≤ 1048576000) :
    Calls Tryf.prog 39 #[.pointer (some ⟨N + 3, 0, none⟩)] w (ReadPost1 N s P ea fpr nl raw rec fi fp (.slice a0 n0 c0) w) := by
  have HC := hide (readRecord_any N s P ea fa fpr nl raw rec fi fp a0 n0 c0 w h hE hnl hfpr)
  obtain ⟨i, r, n, e, bs, pr, lb, lr, off, m, xs, hR⟩ := h.rd
  obtain ⟨_, _, _, _, _, k5, _, _, _, _, _, _, _, k14⟩ := hR.csv.cells
  clear h hE hR
  go_enter Tryf.func39, Tryf.ntmps39
  go_wp2_with fail
  refine (unhide HC).mono ?_
  rintro en w1 ⟨aD, kD, cD, dv, ev, rfl, rfl, hfr, ⟨f1, n1, o1, r1, c1, i1, p1, l1, hcv⟩, hcs⟩
  have m14 := hcv.cells.2.2.2.2.2.2.2.2.2.2.2.2.2
  have mf14 := hcv.frozen 14
  have hfr' := hide hfr
  have hcs' := hide hcs
  clear HC k5 k14 hfr hcs hcv
  go_wp2
  go_ret2
  have hfs : Fr (OwnS N [raw, rec, fi, fp, .slice a0 n0 c0]) w (w1.setCell ⟨N + 3, 14, none⟩ (.slice aD kD cD)) := (unhide hfr').trans (fr_setCell _ _ _ _) (fun k _ e => .inl (by omega))
  refine ⟨aD, kD, cD, _, _, rfl, rfl, hfs, ?_⟩
  rcases unhide hcs' with ⟨h1, h2, _⟩ | h1 | ⟨x, st, P', nl', fpr', raw', rec', fi', fp', cells, h1, h2, h3, h4, h5, h6, h7, h8, h9⟩
  · exact .inl ⟨h1, h2⟩
  · exact .inr (.inl h1)
  · have hF := fr_setCell w1 (N + 3) 14 (.slice aD kD cD)
    exact .inr (.inr ⟨x, st, P', nl', fpr', raw', rec', fi', fp', cells, h1, h2, h3.setlast, h4, Fr.own h5 hF (fun k hk e => by have := (h5.lt k hk).1; omega), Fr.own h6 hF (fun k hk e => by have := (h6.lt k hk).1; omega), h7, h8, h9⟩)
end Go.Proofs.Qxb6612546aFmt
