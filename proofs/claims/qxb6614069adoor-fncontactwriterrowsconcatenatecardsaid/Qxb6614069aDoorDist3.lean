import Derived.Test.Qxb6614069aDoorDist2
import Derived.Test.Qxb6614069aDoorTopP
namespace Go.Proofs.Qxb6614069aDoor
open Go.RowKit Go.Lib Ieee

theorem bstr_at (l : List UInt8) (j : Nat) (c : UInt8) (hl : l[j]? = some c) (h : j < (bstr l).size) : (bstr l)[j] = c := by
  obtain ⟨h2, rfl⟩ := List.getElem?_eq_some_iff.1 hl
  rfl

/-- A quotient by nought. -/
theorem run_one_over (b : Nat) (s : Bool) (i : Int) (h : double.read b = .number s 0 i) (w : World) : (binOp .quo 23 (.float .f64 4607182418800017408) (.float .f64 b)).run Tryd.prog w = .ok (.float .f64 (double.word s double.infRung)) w := by
  have h1 : FloatKind.f64.format.div 4607182418800017408 b = some (double.word s double.infRung) := by
    show double.div 4607182418800017408 b = _
    have e1 : double.read 4607182418800017408 = .number false 4503599627370496 (-52) := by decide
    unfold Format.div
    rw [h, e1]
    unfold Datum.quotient
    dsimp only
    rw [if_pos rfl, if_neg (by decide)]
    cases s <;> rfl
  simp [binOp, Op.floatArith, h1]

theorem read_word_inf (s : Bool) : double.read (double.word s double.infRung) = .infinity s := by cases s <;> decide

/-- What the sign test reads. -/
theorem sign_zero (b : Nat) (hb : b < 18446744073709551616) (h : fExp b ≠ 2047) (h0 : fX b = 0) : double.order b 0 = some .eq ∧ (∀ w, (binOp .quo 23 (.float .f64 4607182418800017408) (.float .f64 b)).run Tryd.prog w = .ok (.float .f64 (double.word (fNeg b) double.infRung)) w) ∧ double.order (double.word (fNeg b) double.infRung) 0 = some (if fNeg b then .lt else .gt) := by
  refine ⟨?_, fun w => ?_, (inf_zero _ _ (read_word_inf _)).2⟩
  · rw [(num_fin b hb h).order num0, h0]
    have : sg (fNeg b) 0 = sg false 0 := by cases fNeg b <;> rfl
    rw [this, cmp_eq rfl]
  · have h1 := read_fin b hb h
    have h2 : fM b = 0 := by
      unfold fX at h0
      rcases Nat.mul_eq_zero.1 h0 with e | e
      · exact e
      · have := Nat.two_pow_pos (fI b + 1120).toNat; omega
    rw [h2] at h1
    exact run_one_over b _ _ h1 w

theorem sign_some (b : Nat) (hb : b < 18446744073709551616) (h : fExp b ≠ 2047) (h0 : fX b ≠ 0) : double.order b 0 = some (if fNeg b then .lt else .gt) := by
  rw [(num_fin b hb h).order num0]
  cases fNeg b
  · rw [sg_false, sg_false, cmp_gt (by omega)]; rfl
  · rw [sg_true, sg_false, cmp_lt (by omega)]; rfl

theorem run_sub_self (b : Nat) (hb : b < 18446744073709551616) (h : fExp b ≠ 2047) (w : World) : (binOp .sub 23 (.float .f64 b) (.float .f64 b)).run Tryd.prog w = .ok (.float .f64 0) w := by
  have h1 : FloatKind.f64.format.sub b b = some 0 := sub_self (read_fin b hb h)
  simp [binOp, Op.floatArith, h1]

theorem neg_abs (b : Nat) (hb : b < 18446744073709551616) (hS : fNeg b = true) : Op.negFloat .f64 b = fAbs b := by
  have e : FloatKind.f64.format.exponentBits + FloatKind.f64.format.fractionBits = 63 := rfl
  unfold Op.negFloat fAbs
  rw [e]
  have h1 : b / 9223372036854775808 = 1 := by
    have : b / 9223372036854775808 ≠ 0 := of_decide_eq_true hS
    omega
  obtain ⟨c, rfl⟩ : ∃ c, b = 2 ^ 63 + c := ⟨b - 9223372036854775808, by omega⟩
  have hc : c < 2 ^ 63 := by omega
  have e1 : 2 ^ 63 + c = 2 ^ 63 ^^^ c := by
    have h2 := Nat.two_pow_add_eq_or_of_lt hc 1
    rw [Nat.mul_one] at h2
    rw [h2]
    apply Nat.eq_of_testBit_eq
    intro j
    rw [Nat.testBit_or, Nat.testBit_xor]
    by_cases hj : j = 63
    · subst hj
      rw [Nat.testBit_lt_two_pow hc]
      simp
    · rw [Nat.testBit_two_pow_of_ne (by omega)]
      simp
  rw [e1, Nat.xor_comm (2 ^ 63) c, Nat.xor_assoc, Nat.xor_self, Nat.xor_zero]
  have e2 : c ^^^ 2 ^ 63 = 2 ^ 63 + c := by rw [Nat.xor_comm, ← e1]
  rw [e2]
  omega

theorem fAbs_pos (b : Nat) (hS : fNeg b = false) : fAbs b = b := by
  unfold fAbs
  have h1 : b / 9223372036854775808 = 0 := by
    have : ¬ (b / 9223372036854775808 ≠ 0) := of_decide_eq_false hS
    omega
  omega

theorem run_float (op : BinOp) (x y r : Nat) (h : floatBits op .f64 x y = some r) (w : World) : (binOp op 23 (.float .f64 x) (.float .f64 y)).run Tryd.prog w = .ok (.float .f64 r) w := run_float_arith (P := Tryd.prog) w op 23 .f64 x y r h

theorem floatOfNat (n : Nat) : floatOfInt .f64 (n : Int) = double.nearest false n 0 := by
  unfold floatOfInt FloatKind.nearest FloatKind.encode
  have : decide ((n : Int) < 0) = false := decide_eq_false (by omega)
  rw [this, Int.natAbs_natCast]
  rfl

end Go.Proofs.Qxb6614069aDoor
