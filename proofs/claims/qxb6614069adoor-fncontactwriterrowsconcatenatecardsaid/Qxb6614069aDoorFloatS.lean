import Derived.Test.Qxb6614069aDoorFloatR
import Derived.Laws.FloatArith
namespace Go.Proofs.Qxb6614069aDoor
open Go.RowKit Go.Lib Ieee
set_option exponentiation.threshold 3000

theorem num13' : Num 4801453603149578240 false (10000000000000 * 2 ^ 1120) := ⟨_, _, num13, by decide, by
  have e : ((-9 : Int) + 1120).toNat = 1111 := by decide
  rw [e, show 1120 = 9 + 1111 from rfl, Nat.pow_add, ← Nat.mul_assoc]⟩
theorem num34' : Num 4604930618986332160 false (3 * 2 ^ 1118) := ⟨_, _, num34, by decide, by
  have e : ((-53 : Int) + 1120).toNat = 1067 := by decide
  rw [e, show 1118 = 51 + 1067 from rfl, Nat.pow_add, ← Nat.mul_assoc]⟩
theorem num34m' : Num 13828302655841107968 true (3 * 2 ^ 1118) := ⟨_, _, num34m, by decide, by
  have e : ((-53 : Int) + 1120).toNat = 1067 := by decide
  rw [e, show 1118 = 51 + 1067 from rfl, Nat.pow_add, ← Nat.mul_assoc]⟩

theorem sg_false (X : Nat) : sg false X = (X : Int) := rfl
theorem sg_true (X : Nat) : sg true X = -(X : Int) := rfl

theorem K_pos : 1 ≤ 2 ^ 1120 := Nat.two_pow_pos _

/-- Against 1e13. -/
theorem big_order (b : Nat) (hb : b < 18446744073709551616) (h : fExp b ≠ 2047) (hX : 10000000000000 * 2 ^ 1120 ≤ fX b) : (double.order (fAbs b) 4801453603149578240 == some .gt || double.order (fAbs b) 4801453603149578240 == some .eq) = true := by
  rw [(num_abs b hb h).order num13', sg_false, sg_false]
  by_cases e : fX b = 10000000000000 * 2 ^ 1120
  · rw [e, cmp_eq rfl]; rfl
  · rw [cmp_gt (by omega)]; rfl

theorem small_order (b : Nat) (hb : b < 18446744073709551616) (h : fExp b ≠ 2047) (hX : ¬ 10000000000000 * 2 ^ 1120 ≤ fX b) : (double.order (fAbs b) 4801453603149578240 == some .gt || double.order (fAbs b) 4801453603149578240 == some .eq) = false := by
  rw [(num_abs b hb h).order num13', sg_false, sg_false, cmp_lt (by omega)]; rfl

theorem big_digits (b : Nat) (h : fExp b ≠ 2047) (hX : 10000000000000 * 2 ^ 1120 ≤ fX b) : 14 ≤ nDigits (cents b / 100) := by
  have h1 := (cents_near b h).2
  have hK := K_pos
  obtain ⟨K, hKd⟩ : ∃ K, K = 2 ^ 1120 := ⟨_, rfl⟩
  rw [← hKd] at h1 hX hK
  have h2 : 1000000000000000 ≤ cents b := by
    apply Classical.byContradiction
    intro hn
    have h3 : cents b * K ≤ 999999999999999 * K := Nat.mul_le_mul_right _ (by omega)
    omega
  exact lt_nd_of_le (i := 13) (by omega)

theorem small_digits (b : Nat) (h : fExp b ≠ 2047) (hX : ¬ 10000000000000 * 2 ^ 1120 ≤ fX b) : cents b ≤ 1000000000000000 ∧ nDigits (cents b / 100) ≤ 14 := by
  have h1 := (cents_near b h).1
  have hK := K_pos
  obtain ⟨K, hKd⟩ : ∃ K, K = 2 ^ 1120 := ⟨_, rfl⟩
  rw [← hKd] at h1 hX hK
  have h2 : cents b ≤ 1000000000000000 := by
    apply Classical.byContradiction
    intro hn
    have h3 : 1000000000000001 * K ≤ cents b * K := Nat.mul_le_mul_right _ (by omega)
    omega
  refine ⟨h2, ?_⟩
  rcases Nat.eq_zero_or_pos (cents b / 100) with e | e
  · rw [e, nDigits_small (by decide)]; decide
  · exact nd_le_of_lt e (by omega)

/-- The difference stays within three quarters. -/
theorem diff_ok (b : Nat) (hb : b < 18446744073709551616) (h : fExp b ≠ 2047) (hX : ¬ 10000000000000 * 2 ^ 1120 ≤ fX b) :
    ∃ r2 r3, double.mul (fAbs b) 4636737291354636288 = some r2 ∧ double.sub (double.nearest false (cents b) 0) r2 = some r3 ∧ (double.order r3 4604930618986332160 == some .gt) = false ∧ (double.order r3 13828302655841107968 == some .lt) = false := by
  obtain ⟨c1, c2⟩ := cents_near b h
  have hc := (small_digits b h hX).1
  have hK := K_pos
  have hK18 : 10000000000000 * 2 ^ 1120 < 2 ^ 1800 := by
    have : 10000000000000 * 2 ^ 1120 ≤ 2 ^ 44 * 2 ^ 1120 := Nat.mul_le_mul_right _ (by decide)
    rw [← Nat.pow_add] at this
    exact Nat.lt_of_le_of_lt this (Nat.pow_lt_pow_right (by decide) (by decide))
  have hX18 : fX b < 2 ^ 1800 := by omega
  obtain ⟨r2, R2, m1, m2, m3, m4⟩ := (num_abs b hb h).mul100 hX18
  have hn := near_int (cents b) (by omega)
  have eh : 2 ^ 1120 = 2 * 2 ^ 1119 := by rw [show 1120 = 1119 + 1 from rfl, Nat.pow_succ, Nat.mul_comm]
  have hup : R2 ≤ (2 * cents b + 1) * 2 ^ 1119 := m3 _ _ (by omega) (by decide) (by
    obtain ⟨Z, hZ⟩ : ∃ Z, Z = 2 ^ 1119 := ⟨_, rfl⟩
    rw [eh, ← hZ] at c2
    rw [← hZ, Nat.add_mul, Nat.one_mul, Nat.mul_assoc]
    have e1 : cents b * (2 * Z) = 2 * (cents b * Z) := by rw [Nat.mul_left_comm]
    omega)
  have hlo : (2 * cents b - 1) * 2 ^ 1119 ≤ R2 := m4 _ _ (by omega) (by decide) (by
    obtain ⟨Z, hZ⟩ : ∃ Z, Z = 2 ^ 1119 := ⟨_, rfl⟩
    rw [eh, ← hZ] at c1
    rw [← hZ, Nat.sub_mul, Nat.one_mul, Nat.mul_assoc]
    have e1 : cents b * (2 * Z) = 2 * (cents b * Z) := by rw [Nat.mul_left_comm]
    omega)
  have hH18 : cents b * 2 ^ 1120 < 2 ^ 1800 := by
    have : cents b * 2 ^ 1120 ≤ 2 ^ 53 * 2 ^ 1120 := Nat.mul_le_mul_right _ (by rw [pow53]; omega)
    rw [← Nat.pow_add] at this
    exact Nat.lt_of_le_of_lt this (Nat.pow_lt_pow_right (by decide) (by decide))
  have hR18 : R2 < 2 ^ 1800 := by
    have : (2 * cents b + 1) * 2 ^ 1119 ≤ 2 ^ 53 * 2 ^ 1119 := Nat.mul_le_mul_right _ (by rw [pow53]; omega)
    rw [← Nat.pow_add] at this
    have h3 : 2 ^ (53 + 1119) < 2 ^ 1800 := Nat.pow_lt_pow_right (by decide) (by decide)
    omega
  obtain ⟨r3, s3, R3, n1, n2, n3⟩ := hn.sub m2 hH18 hR18
  have hR3 : R3 ≤ 1 * 2 ^ 1119 := n3 1 1119 (by decide) (by decide) (by
    obtain ⟨Z, hZ⟩ : ∃ Z, Z = 2 ^ 1119 := ⟨_, rfl⟩
    rw [← hZ, Nat.add_mul, Nat.one_mul, Nat.mul_assoc] at hup
    rw [← hZ, Nat.sub_mul, Nat.one_mul, Nat.mul_assoc] at hlo
    rw [eh, ← hZ]
    have e1 : cents b * (2 * Z) = 2 * (cents b * Z) := by rw [Nat.mul_left_comm]
    rw [e1]
    omega)
  have e34 : 2 ^ 1119 = 2 * 2 ^ 1118 := by rw [show 1119 = 1118 + 1 from rfl, Nat.pow_succ, Nat.mul_comm]
  have p18 : 1 ≤ 2 ^ 1118 := Nat.two_pow_pos _
  refine ⟨r2, r3, m1, n1, ?_, ?_⟩
  · rw [n2.order num34', sg_false, cmp_lt (by
      obtain ⟨Z, hZ⟩ : ∃ Z, Z = 2 ^ 1118 := ⟨_, rfl⟩
      rw [e34, ← hZ] at hR3
      rw [← hZ] at p18 ⊢
      unfold sg
      split <;> omega)]
    rfl
  · rw [n2.order num34m', sg_true, cmp_gt (by
      obtain ⟨Z, hZ⟩ : ∃ Z, Z = 2 ^ 1118 := ⟨_, rfl⟩
      rw [e34, ← hZ] at hR3
      rw [← hZ] at p18 ⊢
      unfold sg
      split <;> omega)]
    rfl

/-- The whole part, and where the float is whole. -/
theorem int_ok (b : Nat) (hb : b < 18446744073709551616) (h : fExp b ≠ 2047) (hX : ¬ 10000000000000 * 2 ^ 1120 ≤ fX b) :
    ∃ I : Nat, I ≤ 10000000000000 ∧ floatToIntVal .f64 (fAbs b) .i64 = some (I : Int) ∧ (double.order (fAbs b) (double.nearest false I 0) = some .eq → cents b = 100 * I) := by
  have hn := num_abs b hb h
  have hI : fX b / 2 ^ 1120 < 10000000000000 := by
    rw [Nat.div_lt_iff_lt_mul (Nat.two_pow_pos _)]
    omega
  refine ⟨fX b / 2 ^ 1120, by omega, ?_, ?_⟩
  · unfold floatToIntVal
    show (match (double.read (fAbs b)).toInt .zero with | some n => if IntKind.i64.min ≤ n ∧ n ≤ IntKind.i64.max then some n else none | none => none) = _
    rw [hn.toInt]
    dsimp only
    have e1 : IntKind.i64.min = -9223372036854775808 := by decide
    have e2 : IntKind.i64.max = 9223372036854775807 := by decide
    rw [e1, e2, if_pos (by omega)]
  · intro ho
    rw [hn.order (near_int _ (by omega)), sg_false, sg_false] at ho
    have he : fX b = fX b / 2 ^ 1120 * 2 ^ 1120 := by
      rcases Int.lt_trichotomy (fX b : Int) ((fX b / 2 ^ 1120 * 2 ^ 1120 : Nat) : Int) with h1 | h1 | h1
      · rw [cmp_lt h1] at ho; cases ho
      · omega
      · rw [cmp_gt h1] at ho; cases ho
    obtain ⟨c1, c2⟩ := cents_near b h
    have hK := K_pos
    obtain ⟨I, hId⟩ : ∃ I, I = fX b / 2 ^ 1120 := ⟨_, rfl⟩
    obtain ⟨K, hKd⟩ : ∃ K, K = 2 ^ 1120 := ⟨_, rfl⟩
    rw [← hId] at he ⊢
    rw [← hKd] at c1 c2 he hK
    rw [he] at c1 c2
    apply Classical.byContradiction
    intro hne
    rcases Nat.lt_or_gt_of_ne hne with hl | hg
    · have h3 : (cents b + 1) * K ≤ 100 * I * K := Nat.mul_le_mul_right _ hl
      rw [Nat.add_mul, Nat.one_mul, Nat.mul_assoc] at h3
      omega
    · have h3 : (100 * I + 1) * K ≤ cents b * K := Nat.mul_le_mul_right _ hg
      rw [Nat.add_mul, Nat.one_mul, Nat.mul_assoc] at h3
      omega

end Go.Proofs.Qxb6614069aDoor
