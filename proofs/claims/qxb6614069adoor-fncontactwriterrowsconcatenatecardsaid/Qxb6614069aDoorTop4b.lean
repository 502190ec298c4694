import Derived.Test.Qxb6614069aDoorTop4
import Derived.Deep.RegionHeld3
namespace Go.Proofs.Qxb6614069aDoor
open Go.RowKit Go.Lib

theorem CW.drew {base : Nat} {w : World} {C b : Nat} {T : List UInt8} (h : CW base w C b T) (m : Nat) : CW base (w.drewN m) C b T := by
  obtain ⟨X, R, v, rv, O, Pd, e, h⟩ := h
  exact ⟨X, R, v, rv, O, Pd, e, h.wr.drew m, h.c, h.own, h.cS, h.rS, h.lo⟩

theorem below_drew {B : Nat} {w w' : World} (h : Below B w w') (m : Nat) : Below B w (w'.drewN m) := h.trans ⟨rfl, rfl, rfl, Nat.le_refl _, fun _ _ => rfl⟩
theorem below_drew0 {B : Nat} {w w' : World} {m : Nat} (h : Below B (w.drewN m) w') : Below B w w' := (below_drew (Below.refl B w) m).trans h

/-- What row t of the input is worth to the first loop. -/
theorem Env4.round {w : World} {i : Ins} {xl : List Int} {a0 a1 a2 a3 a4 : Option Addr} (h : Env4 w i xl a0 a1 a2 a3 a4) (wr : World) (hB : Below w.heap.size w wr) (base C b : Nat) (hbase : w.heap.size ≤ base) (T : List UInt8) (hC : CW base wr C b T) (hT : T.length ≤ 1073741824) (z : Int) (t : Nat) (n : Nat) :
    Calls Tryd.prog 6 #[.pointer (some ⟨C, 0, none⟩), .agg #[.int .i64 z, .int .i64 (i.xs.getD t 0), .int .u64 (i.xa.getD t 0 : Nat), .int .u64 (i.xb.getD t 0 : Nat), .float .f64 (i.xd.getD t 0)]] (wr.drewN n) fun e w' => e = .returned (.tuple #[]) ∧ CW base w' C b (T ++ i.row t) ∧ Below base wr w' :=
  (h.write (wr.drewN n) (below_drew hB n) base C b hbase T (hC.drew n) hT z t).mono (fun _ _ ⟨h1, h2, h3⟩ => ⟨h1, h2, below_drew0 h3⟩)

/-- The text of one row alone, as the second loop takes it apart. -/
structure Row4 (T2 R LD : ByteArray) : Prop where
  sz : 33 ≤ T2.size
  pre : T2.extract 0 (bstr header).size = bstr header
  cut : T2.extract 33 T2.size = R
  r1 : 1 ≤ R.size
  r2 : R.size ≤ 465
  last : ∀ h : R.size - 1 < R.size, R[R.size - 1] = 10
  lsz : LD.size ≤ R.size
  lead : R.extract 0 LD.size = LD

theorem row4 {i : Ins} (h : i.Ok) (t : Nat) : Row4 (bstr (header ++ i.row t)) (bstr (i.row t)) (bstr (i.lead t)) := by
  obtain ⟨⟨k1, k2⟩, k3, k4, k5⟩ := h.at t
  have hl : (i.row t).length ≤ 465 := (row_length _ _ _ (i.xd.getD t 0) k1 k2 k3 k4).2
  have hr := i.row_lead t
  have hlen : (i.row t).length = (i.lead t).length + (fl (i.xd.getD t 0)).length + 1 := by
    rw [hr]; simp; omega
  refine ⟨?_, bstr_head _ _, ?_, ?_, ?_, fun hh => ?_, ?_, ?_⟩
  · rw [bstr_size, List.length_append, header_length]; omega
  · exact bstr_tail header (i.row t)
  · rw [bstr_size]; omega
  · rw [bstr_size]; exact hl
  · have h2 : (i.row t)[(i.row t).length - 1]? = some 10 := by
      rw [hr, ← List.append_assoc]
      simp
    have e : (bstr (i.row t)).size - 1 = (i.row t).length - 1 := by rw [bstr_size]
    obtain ⟨h3, h4⟩ := List.getElem?_eq_some_iff.1 h2
    have h5 : (bstr (i.row t))[(i.row t).length - 1]'(by rw [bstr_size]; exact h3) = 10 := h4
    simp only [e]
    exact h5
  · rw [bstr_size, bstr_size]; omega
  · rw [hr]; exact bstr_head _ _

/-- The head of a row, put together. -/
theorem lead4 (i : Ins) (t : Nat) : bstr (Lib.itoa (i.xs.getD t 0)) ++ ⟨#[44]⟩ ++ bstr (Lib.decDigits (i.xa.getD t 0)) ++ ⟨#[44]⟩ ++ bstr (Lib.decDigits (i.xb.getD t 0)) ++ ⟨#[44]⟩ = bstr (i.lead t) := by
  have e : (⟨#[44]⟩ : ByteArray) = bstr [44] := rfl
  rw [e, bstr_append, bstr_append, bstr_append, bstr_append, bstr_append]
  rfl

theorem size4 {i : Ins} (h : i.Ok) (t : Nat) : (bstr (Lib.itoa (i.xs.getD t 0))).size ≤ 21 ∧ (bstr (Lib.decDigits (i.xa.getD t 0))).size ≤ 20 ∧ (bstr (Lib.decDigits (i.xb.getD t 0))).size ≤ 20 := by
  obtain ⟨⟨k1, k2⟩, k3, k4, k5⟩ := h.at t
  refine ⟨?_, ?_, ?_⟩
  · rw [bstr_size]; exact Lib.itoa_length_le _ k1 k2
  · rw [bstr_size, Lib.decDigits_length]; exact nDigits_le20 _ k3
  · rw [bstr_size, Lib.decDigits_length]; exact nDigits_le20 _ k4

theorem below_grow {B : Nat} {w w1 w2 : World} (h : Below B w w1) (hB : B ≤ w1.heap.size) (hg : w1.grownBy w2 none) : Below B w w2 := h.grown hg hB (by simp)

end Go.Proofs.Qxb6614069aDoor
