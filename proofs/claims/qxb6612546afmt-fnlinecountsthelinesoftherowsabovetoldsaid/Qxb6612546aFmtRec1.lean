import Derived.Test.Qxb6612546aFmtRecQ
namespace Go.Proofs.Qxb6612546aFmt
open Go.RowKit

/-- A part of a function's code: 0, 1: the first, the second part of a sequence or of a choice; else the body. -/
def sub : Code → List Nat → Code
  | c, [] => c
  | .seq x y, k :: r => if k = 0 then sub x r else sub y r
  | .cond _ x y, k :: r => if k = 0 then sub x r else sub y r
  | .block _ c, _ :: r => sub c r
  | .loop c, _ :: r => sub c r
  | .scope c, _ :: r => sub c r
  | c, _ :: _ => c

theorem to_fr2 {c : Code} {Q : Exit → Act → World → Prop} {w : World} {a : Act} {N : Nat} {a0 : Option Addr} {n0 c0 : Nat} {rl : Int} {pb : Nat} (lv e8 : Value) (h : a = fr2 N a0 n0 c0 lv e8 rl pb (fun i => nthV a.tmps.toList i)) (hw : ∀ f, Code.wp Tryf.prog c Q (fr2 N a0 n0 c0 lv e8 rl pb f) w) : Code.wp Tryf.prog c Q a w := by
  rw [h]; exact hw _

theorem start_fr2 {a : Act} {N : Nat} {a0 : Option Addr} {n0 c0 : Nat} {rl : Int} {pb : Nat} {e8 : Value} {R : Value → Prop} (lv : Value) (h : a = fr2 N a0 n0 c0 lv e8 rl pb (fun i => nthV a.tmps.toList i)) (hR : R lv) : ∃ lv f, a = fr2 N a0 n0 c0 lv e8 rl pb f ∧ R lv := ⟨lv, _, h, hR⟩

theorem Tryf.info3 : (Tryf.prog.info? 3).map (fun i => (i.zero, i.size, i.bytes)) = some (some (.int .i64 0), 1, 8) := by kernel_rfl
theorem Tryf.info82 : (Tryf.prog.info? 82).map (fun i => (i.zero, i.size, i.bytes)) = some (some (.agg #[.int .i64 0, .int .i64 0]), 2, 16) := by kernel_rfl

/-- A new block, then a growing row: the csv struct stays. -/
theorem csv_grown {w w2 : World} {N m : Nat} {fpr nl off : Int} {raw rec fi fp last v : Value} {o : Obj} (h : Csv w N fpr nl off raw rec fi fp last) (hg : ((w.drewN m).alloc o).grownBy w2 v.ownBlock) (hv : ∀ g, v.ownBlock = some g → N + 4 ≤ g) : Csv w2 N fpr nl off raw rec fi fp last := by
  have hlt := (Array.getElem?_eq_some_iff.1 h.block).1
  refine ⟨?_⟩
  rw [hg.block (N + 3) (by simp; omega) (fun e => by have := hv (N + 3) e.symm; omega)]
  exact (Below.heap_alloc (w.drewN m) o (N + 3) hlt).trans h.block

theorem fr_grownA {w w' : World} {r : Option Nat} {n : Nat} {o : Obj} (h : ((w.drewN n).alloc o).grownBy w' r) : Fr (fun k => r = some k) w w' :=
  ⟨h.os, h.tape, h.output, by have := h.size; simp at this; omega, fun k hk hs => by
    rw [h.block k (by simp; omega) (fun e => hs e.symm)]
    exact Below.heap_alloc (w.drewN n) o k hk⟩

theorem own_orA {w : World} {v v' : Value} {o : Obj} {n : Nat} (hwh : v'.ownBlock = v.ownBlock ∨ v'.ownBlock = some (((w.drewN n).alloc o).heap.size)) : v'.ownBlock = v.ownBlock ∨ ∃ g, v'.ownBlock = some g ∧ w.heap.size ≤ g := by
  rcases hwh with h | h
  · exact .inl h
  · exact .inr ⟨_, h, by simp⟩

namespace Cs
theorem bare_comma {fl post R : List UInt8} {fs : List (List UInt8)} {rl nl : Nat} (hq : (fl ++ 44 :: post).head? ≠ some 34) (h44 : (44 : UInt8) ∉ fl) (h10 : (10 : UInt8) ∉ fl) (h34 : (34 : UInt8) ∉ fl) : mach 0 [] fs rl nl ((fl ++ 44 :: post) ++ R) = mach 0 [] (fs ++ [fl]) rl nl (post ++ R) := by
  rw [mach0_bare fs rl nl _ (by
    rw [List.head?_append]
    cases fl with
    | nil => simp
    | cons _ _ => simpa using hq), List.append_assoc, mach1_run fl [] fs rl nl _ (fun c hc => ⟨fun e => h44 (e ▸ hc), fun e => h10 (e ▸ hc), fun e => h34 (e ▸ hc)⟩), List.cons_append, mach1_comma]
  rfl

theorem bare_lf {fl R : List UInt8} {fs : List (List UInt8)} {rl nl : Nat} (hq : (fl ++ [10]).head? ≠ some 34) (h44 : (44 : UInt8) ∉ fl) (h10 : (10 : UInt8) ∉ fl) (h34 : (34 : UInt8) ∉ fl) : mach 0 [] fs rl nl ((fl ++ [10]) ++ R) = ((fs ++ [fl], rl) :: (mach 4 [] [] 0 (nl + 1) R).1, (mach 4 [] [] 0 (nl + 1) R).2) := by
  rw [mach0_bare fs rl nl _ (by
    rw [List.head?_append]
    cases fl with
    | nil => simp
    | cons _ _ => simpa using hq), List.append_assoc, mach1_run fl [] fs rl nl _ (fun c hc => ⟨fun e => h44 (e ▸ hc), fun e => h10 (e ▸ hc), fun e => h34 (e ▸ hc)⟩), List.cons_append, mach1_lf]
  rfl

theorem bare_nil {fl : List UInt8} {fs : List (List UInt8)} {rl nl : Nat} (hq : fl.head? ≠ some 34) (h44 : (44 : UInt8) ∉ fl) (h10 : (10 : UInt8) ∉ fl) (h34 : (34 : UInt8) ∉ fl) : mach 0 [] fs rl nl (fl ++ norm []) = ((fs ++ [fl], rl) :: (mach 4 [] [] 0 (nl + 1) (norm [])).1, (mach 4 [] [] 0 (nl + 1) (norm [])).2) := by
  have : norm [] = [] := rfl
  rw [this, mach0_bare fs rl nl _ (by simpa using hq), mach1_run fl [] fs rl nl _ (fun c hc => ⟨fun e => h44 (e ▸ hc), fun e => h10 (e ▸ hc), fun e => h34 (e ▸ hc)⟩), mach1_nil, mach4_nil]
  rfl

theorem bare_bad {fl R : List UInt8} {fs : List (List UInt8)} {rl nl : Nat} (hq : (fl ++ R).head? ≠ some 34) (h44 : (44 : UInt8) ∉ fl) (h10 : (10 : UInt8) ∉ fl) (h34 : (34 : UInt8) ∈ fl) : mach 0 [] fs rl nl (fl ++ R) = ([], true) := by
  rw [mach0_bare fs rl nl _ hq, mach1_bad fl [] fs rl nl R (fun c hc => ⟨fun e => h44 (e ▸ hc), fun e => h10 (e ▸ hc)⟩) h34]
end Cs

theorem ends_snoc {fs : List (List UInt8)} {bts fl : List UInt8} {ix : List Nat} (hb : fs.flatten = bts) (hi : ends 0 fs = ix) : (fs ++ [fl]).flatten = bts ++ fl ∧ ends 0 (fs ++ [fl]) = ix ++ [bts.length + fl.length] := by
  have h1 : (fs ++ [fl]).flatten = bts ++ fl := by simp [hb]
  exact ⟨h1, by rw [ends_append, h1, hi, List.length_append, Nat.zero_add]⟩

theorem out_fr2 {a : Act} {N : Nat} {a0 : Option Addr} {n0 c0 : Nat} {rl : Int} {pb : Nat} {R : Value → Prop} (lv e8 : Value) (h : a = fr2 N a0 n0 c0 lv e8 rl pb (fun i => nthV a.tmps.toList i)) (hR : R e8) : ∃ lv e8 f, a = fr2 N a0 n0 c0 lv e8 rl pb f ∧ R e8 := ⟨lv, e8, _, h, hR⟩

theorem cell_two_new (w : World) (x y : Value) (t : TypeId) : ∀ j u, [x, y][j]? = some u → (w.alloc (.cells #[x, y] t)).cell? ((⟨w.heap.size, 0, none⟩ : Addr).add j) = some u := by
  intro j u hj
  match j, hj with
  | 0, hj => simp at hj; subst hj; simp [Addr.add]
  | 1, hj => simp at hj; subst hj; simp [Addr.add]
  | (j + 2), hj => simp at hj

/-- The strings of a record. -/
def strsOf (x : List (List UInt8)) : List ByteArray := x.map fun l => ⟨l.toArray⟩

theorem RdS.csv {w : World} {N : Nat} {s : ByteArray} {P : List UInt8} {ea : Addr} {fpr : Int} {nl : Nat} {raw rec fi fp last : Value} (h : RdS w N s P ea fpr nl raw rec fi fp last) : ∃ fpr1 nl1 off1 raw1 rec1 fi1 fp1 last1, Csv w N fpr1 nl1 off1 raw1 rec1 fi1 fp1 last1 := by
  obtain ⟨i, r, n, e, bs, pr, lb, lr, off, m, xs, hR⟩ := h
  exact ⟨_, _, _, _, _, _, _, _, hR.csv⟩

/-- What readRecord leaves. -/
def RecPost (N : Nat) (s : ByteArray) (P : List UInt8) (ea : Addr) (fpr : Int) (nl : Nat) (raw rec fi fp last lst : Value) (w : World) (en : Ending) (w' : World) : Prop :=
  ∃ (aD : Option Addr) (kD cD : Nat) (dv ev : Value), dv = .slice aD kD cD ∧ en = .returned (.tuple #[dv, ev]) ∧ Fr (OwnS N [raw, rec, fi, fp, lst]) w w' ∧ (∃ fpr1 nl1 off1 raw1 rec1 fi1 fp1 last1, Csv w' N fpr1 nl1 off1 raw1 rec1 fi1 fp1 last1) ∧
    ((Cs.mach 4 [] [] 0 (nl + 1) (Cs.norm P) = ([], false) ∧ ev = .iface 84 (.pointer (some ea)) ∧ dv = .slice none 0 0) ∨
     (Cs.mach 4 [] [] 0 (nl + 1) (Cs.norm P) = ([], true) ∧ ∃ p, ev = .iface 98 (.pointer (some p))) ∨
     (∃ (x : List (List UInt8)) (st : Nat) (P' : List UInt8) (nl' : Nat) (fpr' : Int) (raw' rec' fi' fp' : Value) (cells : List Value),
       Cs.mach 4 [] [] 0 (nl + 1) (Cs.norm P) = ((x, st) :: (Cs.mach 4 [] [] 0 (nl' + 1) (Cs.norm P')).1, (Cs.mach 4 [] [] 0 (nl' + 1) (Cs.norm P')).2) ∧ 0 < x.length ∧
       R0 w' N s P' ea fpr' nl' raw' rec' fi' fp' last dv ∧ (∀ v ∈ [raw', rec', fi', fp', dv], ∀ g, v.ownBlock = some g → (∃ v0 ∈ [raw, rec, fi, fp, lst], v0.ownBlock = some g) ∨ w.heap.size ≤ g) ∧
       w'.ownsRow (N + 4) 9 1 dv x.length ((strsOf x).map Value.string) ∧ w'.ownsRow (N + 4) 82 2 fp' x.length cells ∧ cells[0]? = some (intV st) ∧ nl' + P'.length ≤ nl + P.length ∧
       ((fpr = 0 ∧ fpr' = x.length ∧ ev = .nilIface) ∨ (fpr ≠ 0 ∧ fpr' = fpr ∧ ((x.length = fpr ∧ ev = .nilIface) ∨ ((x.length : Int) ≠ fpr ∧ ∃ p, ev = .iface 98 (.pointer (some p))))))))


end Go.Proofs.Qxb6612546aFmt
