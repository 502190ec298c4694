import Derived.Test.Qxb6614069aDoorFloatQ
import Derived.Test.Qxb6614069aDoorCents2
namespace Go.Proofs.Qxb6614069aDoor
open Go.RowKit Go.Lib Ieee
set_option exponentiation.threshold 3000

/-- The significand and the place of a finite float. -/
def fM (b : Nat) : Nat := if fExp b = 0 then fMan b else fMan b + 4503599627370496
def fI (b : Nat) : Int := if fExp b = 0 then -1074 else (fExp b : Int) - 1075
/-- Its magnitude, in units of 2 ^ -1120. -/
def fX (b : Nat) : Nat := fM b * 2 ^ (fI b + 1120).toNat

theorem fParts (b : Nat) (hb : b < 18446744073709551616) : b % 9223372036854775808 = fExp b * 4503599627370496 + fMan b ∧ ((b / 9223372036854775808 % 2 == 1) = fNeg b) := by
  constructor
  · unfold fExp fMan; omega
  · unfold fNeg
    by_cases h : b / 9223372036854775808 = 0
    · simp [h]
    · have h1 : b / 9223372036854775808 = 1 := by omega
      simp [h1]

theorem read_fin (b : Nat) (hb : b < 18446744073709551616) (h : fExp b ≠ 2047) : double.read b = .number (fNeg b) (fM b) (fI b) := by
  obtain ⟨h1, h2⟩ := fParts b hb
  have hE : fExp b < 2047 := by have : fExp b < 2048 := by unfold fExp; omega
                                omega
  have hM : fMan b < 4503599627370496 := by unfold fMan; omega
  unfold Format.read
  rw [d_sw, d_bin, d_inf, d_least]
  dsimp only
  rw [h2, h1]
  unfold fM fI
  by_cases h0 : fExp b = 0
  · rw [if_pos (by omega), if_pos h0, if_pos h0, h0, Nat.zero_mul, Nat.zero_add]
  · rw [if_neg (by omega), if_pos (by omega), if_neg h0, if_neg h0]
    have e1 : (fExp b * 4503599627370496 + fMan b) % 4503599627370496 = fMan b := by omega
    have e2 : (fExp b * 4503599627370496 + fMan b) / 4503599627370496 = fExp b := by omega
    rw [e1, e2, Nat.add_comm]
    congr 1
    omega

theorem read_inf (b : Nat) (hb : b < 18446744073709551616) (h : fExp b = 2047) (h0 : fMan b = 0) : double.read b = .infinity (fNeg b) := by
  obtain ⟨h1, h2⟩ := fParts b hb
  unfold Format.read
  rw [d_sw, d_bin, d_inf, d_least]
  dsimp only
  rw [h2, h1, if_neg (by omega), if_neg (by omega), if_pos (by omega)]

theorem read_nan (b : Nat) (hb : b < 18446744073709551616) (h : fExp b = 2047) (h0 : fMan b ≠ 0) : ∃ s t, double.read b = .nan s t := by
  obtain ⟨h1, h2⟩ := fParts b hb
  unfold Format.read
  rw [d_sw, d_bin, d_inf, d_least]
  dsimp only
  rw [h2, h1, if_neg (by omega), if_neg (by omega), if_neg (by omega)]
  exact ⟨_, _, rfl⟩

theorem num_fin (b : Nat) (hb : b < 18446744073709551616) (h : fExp b ≠ 2047) : Num b (fNeg b) (fX b) := by
  refine ⟨_, _, read_fin b hb h, ?_, rfl⟩
  unfold fI
  split <;> omega

/-- The float without its sign. -/
def fAbs (b : Nat) : Nat := b % 9223372036854775808

theorem fAbs_parts (b : Nat) (hb : b < 18446744073709551616) : fAbs b < 18446744073709551616 ∧ fExp (fAbs b) = fExp b ∧ fMan (fAbs b) = fMan b ∧ fNeg (fAbs b) = false := by
  have h1 := (fParts b hb).1
  have hM : fMan b < 4503599627370496 := by unfold fMan; omega
  have hE : fExp b < 2048 := by unfold fExp; omega
  refine ⟨by unfold fAbs; omega, ?_, ?_, ?_⟩
  · show b % 9223372036854775808 / 4503599627370496 % 2048 = _
    rw [h1]; omega
  · show b % 9223372036854775808 % 4503599627370496 = _
    rw [h1]; omega
  · unfold fNeg fAbs
    apply decide_eq_false
    omega

theorem fX_abs (b : Nat) (hb : b < 18446744073709551616) : fX (fAbs b) = fX b := by
  obtain ⟨_, h1, h2, _⟩ := fAbs_parts b hb
  unfold fX fM fI
  rw [h1, h2]

theorem num_abs (b : Nat) (hb : b < 18446744073709551616) (h : fExp b ≠ 2047) : Num (fAbs b) false (fX b) := by
  obtain ⟨h0, h1, h2, h3⟩ := fAbs_parts b hb
  have h4 := num_fin (fAbs b) h0 (by rw [h1]; exact h)
  rw [h3, fX_abs b hb] at h4
  exact h4

/-- What is printed is the nearest number of hundredths. -/
theorem cents_near (b : Nat) (h : fExp b ≠ 2047) : 2 * (cents b * 2 ^ 1120) ≤ 200 * fX b + 2 ^ 1120 ∧ 200 * fX b ≤ 2 * (cents b * 2 ^ 1120) + 2 ^ 1120 := by
  have hE : fExp b < 2047 := by have : fExp b < 2048 := by unfold fExp; omega
                                omega
  have hM : fMan b < 4503599627370496 := by unfold fMan; omega
  unfold cents
  by_cases h1 : fExp b < 1014
  · rw [if_pos h1]
    have hX : fX b ≤ 2 ^ 53 * 2 ^ 1058 := by
      have e1 : fM b ≤ 2 ^ 53 := by unfold fM; rw [pow53]; split <;> omega
      have e2 : 2 ^ (fI b + 1120).toNat ≤ 2 ^ 1058 := Nat.pow_le_pow_right (by decide) (by unfold fI; split <;> omega)
      exact Nat.mul_le_mul e1 e2
    have e3 : 2 ^ 53 * 2 ^ 1058 * 2 ^ 9 = 2 ^ 1120 := by rw [← Nat.pow_add, ← Nat.pow_add]
    obtain ⟨K, hK⟩ : ∃ K, K = 2 ^ 1120 := ⟨_, rfl⟩
    obtain ⟨Y, hY⟩ : ∃ Y, Y = 2 ^ 53 * 2 ^ 1058 := ⟨_, rfl⟩
    rw [← hK, ← hY] at e3
    rw [← hY] at hX
    rw [← hK]
    have e9 : 2 ^ 9 = 512 := by decide
    rw [e9] at e3
    omega
  · rw [if_neg h1]
    have hm : fM b = fMan b + 4503599627370496 := by unfold fM; rw [if_neg (by omega)]
    have hi : (fI b + 1120).toNat = fExp b + 45 := by unfold fI; rw [if_neg (by omega)]; omega
    obtain ⟨M, hMd⟩ : ∃ M, M = fMan b + 4503599627370496 := ⟨_, rfl⟩
    have hX : fX b = M * 2 ^ (fExp b + 45) := by unfold fX; rw [hm, hi, hMd]
    rw [← hMd]
    by_cases h2 : fExp b ≤ 1075
    · rw [if_pos h2]
      obtain ⟨r1, r2⟩ := round_stick (2 ^ (1075 - fExp b)) (400 * M) (Nat.two_pow_pos _)
      obtain ⟨H, hH⟩ : ∃ H, H = uround (stick (2 ^ (1075 - fExp b)) (400 * M)) := ⟨_, rfl⟩
      rw [← hH] at r1 r2 ⊢
      obtain ⟨D, hD⟩ : ∃ D, D = 2 ^ (1075 - fExp b) := ⟨_, rfl⟩
      obtain ⟨W, hW⟩ : ∃ W, W = 2 ^ (fExp b + 45) := ⟨_, rfl⟩
      have hDW : D * W = 2 ^ 1120 := by rw [hD, hW, ← Nat.pow_add]; congr 1; omega
      rw [← hD] at r1 r2
      rw [hX, ← hDW, ← hW]
      have g1 := Nat.mul_le_mul_right W r1
      have g2 := Nat.mul_le_mul_right W r2
      have e1 : 4 * (H * D) * W = 4 * (H * (D * W)) := by rw [Nat.mul_assoc, Nat.mul_assoc]
      have e2 : (400 * M + 2 * D) * W = 400 * (M * W) + 2 * (D * W) := by rw [Nat.add_mul, Nat.mul_assoc, Nat.mul_assoc]
      have e3 : (4 * (H * D) + 2 * D) * W = 4 * (H * (D * W)) + 2 * (D * W) := by rw [Nat.add_mul, e1, Nat.mul_assoc 2]
      rw [e1, e2] at g1
      rw [e3, Nat.mul_assoc 400] at g2
      omega
    · rw [if_neg h2]
      have e1 : 2 ^ (fExp b + 45) = 2 ^ (fExp b - 1075) * 2 ^ 1120 := by rw [← Nat.pow_add]; congr 1; omega
      obtain ⟨K, hK⟩ : ∃ K, K = 2 ^ 1120 := ⟨_, rfl⟩
      rw [hX, e1, ← hK, Nat.mul_assoc 100, Nat.mul_assoc M]
      omega

end Go.Proofs.Qxb6614069aDoor
