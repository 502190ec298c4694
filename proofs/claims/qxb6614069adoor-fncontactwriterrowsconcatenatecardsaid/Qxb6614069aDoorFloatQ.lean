import Derived.Test.Qxb6614069aDoorFloatP
namespace Go.Proofs.Qxb6614069aDoor
open Ieee
set_option exponentiation.threshold 3000

/-- A magnitude with its sign. -/
def sg (s : Bool) (X : Nat) : Int := if s then -(X : Int) else (X : Int)

/-- The word x reads as a number: its sign and its magnitude in units of 2 ^ -1120. -/
def Num (x : Nat) (s : Bool) (X : Nat) : Prop := ∃ m i, double.read x = .number s m i ∧ -1074 ≤ i ∧ m * 2 ^ (i + 1120).toNat = X

theorem signed_sg (s : Bool) (m up : Nat) : signed s m up = sg s (m * 2 ^ up) := by
  unfold signed sg
  rw [Nat.shiftLeft_eq]

theorem sg_mul (s : Bool) (X k : Nat) : sg s (X * k) = sg s X * (k : Int) := by
  unfold sg
  cases s
  · simp
  · simp [Int.neg_mul]

theorem sg_base {s : Bool} {m : Nat} {i base : Int} (h1 : base ≤ i) (h2 : -1120 ≤ base) : sg s (m * 2 ^ (i + 1120).toNat) = signed s m (i - base).toNat * ((2 ^ (base + 1120).toNat : Nat) : Int) := by
  rw [signed_sg, ← sg_mul, Nat.mul_assoc, ← Nat.pow_add]
  congr 3
  omega

theorem cmp_lt {a b : Int} (h : a < b) : compare a b = .lt := by
  show compareOfLessAndEq a b = _
  unfold compareOfLessAndEq
  rw [if_pos h]
theorem cmp_eq {a b : Int} (h : a = b) : compare a b = .eq := by
  show compareOfLessAndEq a b = _
  unfold compareOfLessAndEq
  rw [if_neg (by omega), if_pos h]
theorem cmp_gt {a b : Int} (h : b < a) : compare a b = .gt := by
  show compareOfLessAndEq a b = _
  unfold compareOfLessAndEq
  rw [if_neg (by omega), if_neg (by omega)]

theorem cmp_mul (a b : Int) (k : Nat) (hk : 0 < k) : compare (a * (k : Int)) (b * (k : Int)) = compare a b := by
  have hk' : (0 : Int) < k := by omega
  rcases Int.lt_trichotomy a b with h | h | h
  · rw [cmp_lt (Int.mul_lt_mul_of_pos_right h hk'), cmp_lt h]
  · rw [h, cmp_eq rfl, cmp_eq rfl]
  · rw [cmp_gt (Int.mul_lt_mul_of_pos_right h hk'), cmp_gt h]

theorem Num.order {x y : Nat} {s t : Bool} {X Y : Nat} (h : Num x s X) (k : Num y t Y) : double.order x y = some (compare (sg s X) (sg t Y)) := by
  obtain ⟨m, i, h1, h2, rfl⟩ := h
  obtain ⟨n, j, k1, k2, rfl⟩ := k
  unfold Format.order
  rw [h1, k1]
  unfold Datum.order
  dsimp only
  rw [sg_base (base := min i j) (by omega) (by omega), sg_base (i := j) (base := min i j) (by omega) (by omega), cmp_mul _ _ _ (pw _)]

/-- What a nearest word is worth. -/
theorem near_num (s : Bool) (mag : Nat) (place : Int) (hp : -1120 ≤ place) (hfin : mag * 2 ^ (place + 1120).toNat < 2 ^ 1900) : ∃ R, Num (double.nearest s mag place) s R ∧
      (∀ n Q, n < 9007199254740992 → 46 ≤ Q → mag * 2 ^ (place + 1120).toNat ≤ n * 2 ^ Q → R ≤ n * 2 ^ Q) ∧
      (∀ n Q, n < 9007199254740992 → 46 ≤ Q → n * 2 ^ Q ≤ mag * 2 ^ (place + 1120).toNat → n * 2 ^ Q ≤ R) := by
  obtain ⟨m, i, h1, h2, h3, h4⟩ := near_spec s mag place hp hfin
  exact ⟨_, ⟨m, i, h1, h2, rfl⟩, h3, h4⟩

/-- Whole numbers are floats. -/
theorem near_int (h : Nat) (hh : h < 9007199254740992) : Num (double.nearest false h 0) false (h * 2 ^ 1120) := by
  have e : ((0 : Int) + 1120).toNat = 1120 := by decide
  obtain ⟨R, h1, h2, h3⟩ := near_num false h 0 (by decide) (by
    rw [e]
    have h5 : h * 2 ^ 1120 ≤ 2 ^ 53 * 2 ^ 1120 := Nat.mul_le_mul_right _ (by rw [pow53]; omega)
    rw [← Nat.pow_add] at h5
    exact Nat.lt_of_le_of_lt h5 (Nat.pow_lt_pow_right (by decide) (by decide)))
  rw [e] at h2 h3
  have h4 := h2 h 1120 hh (by decide) (Nat.le_refl _)
  have h5 := h3 h 1120 hh (by decide) (Nat.le_refl _)
  rw [show h * 2 ^ 1120 = R by omega]
  exact h1

/-- The float 100. -/
theorem num100 : double.read 4636737291354636288 = .number false 7036874417766400 (-46) := by decide

/-- Hundredfold: between the floats that the exact product lies between. -/
theorem Num.mul100 {x X : Nat} (h : Num x false X) (hX : X < 2 ^ 1800) : ∃ r R, double.mul x 4636737291354636288 = some r ∧ Num r false R ∧
      (∀ n Q, n < 9007199254740992 → 46 ≤ Q → 100 * X ≤ n * 2 ^ Q → R ≤ n * 2 ^ Q) ∧ (∀ n Q, n < 9007199254740992 → 46 ≤ Q → n * 2 ^ Q ≤ 100 * X → n * 2 ^ Q ≤ R) := by
  obtain ⟨m, i, h1, h2, h3⟩ := h
  have e : m * 7036874417766400 * 2 ^ (i + -46 + 1120).toNat = 100 * X := by
    have e1 : (i + 1120).toNat = 46 + (i + -46 + 1120).toNat := by omega
    rw [← h3, e1, Nat.pow_add]
    have e2 : 7036874417766400 = 100 * 2 ^ 46 := by decide
    rw [e2]
    obtain ⟨Z, hZ⟩ : ∃ Z, Z = 2 ^ (i + -46 + 1120).toNat := ⟨_, rfl⟩
    rw [← hZ, Nat.mul_left_comm m 100, Nat.mul_assoc 100, Nat.mul_assoc m]
  obtain ⟨R, k1, k2, k3⟩ := near_num false (m * 7036874417766400) (i + -46) (by omega) (by
    rw [e]
    have h4 : 100 * X < 2 ^ 7 * 2 ^ 1800 := by
      have e7 : 2 ^ 7 = 128 := by decide
      rw [e7]
      omega
    rw [← Nat.pow_add] at h4
    exact Nat.lt_of_lt_of_le h4 (Nat.pow_le_pow_right (by decide) (by decide)))
  rw [e] at k2 k3
  refine ⟨_, R, ?_, k1, k2, k3⟩
  unfold Format.mul
  rw [h1, num100]
  rfl

/-- The difference of two numbers of the format, at least as near as the exact one to every float. -/
theorem Num.sub {x y X Y : Nat} (h : Num x false X) (k : Num y false Y) (hX : X < 2 ^ 1800) (hY : Y < 2 ^ 1800) : ∃ r s R, double.sub x y = some r ∧ Num r s R ∧
      (∀ n Q, n < 9007199254740992 → 46 ≤ Q → ((X : Int) - (Y : Int)).natAbs ≤ n * 2 ^ Q → R ≤ n * 2 ^ Q) := by
  obtain ⟨m, i, h1, h2, h3⟩ := h
  obtain ⟨n, j, k1, k2, k3⟩ := k
  obtain ⟨base, hb⟩ : ∃ base, base = min i j := ⟨_, rfl⟩
  obtain ⟨tot, ht⟩ : ∃ tot, tot = signed false m (i - base).toNat + signed true n (j - base).toNat := ⟨_, rfl⟩
  have e : tot.natAbs * 2 ^ (base + 1120).toNat = ((X : Int) - (Y : Int)).natAbs := by
    have e1 := sg_base (s := false) (m := m) (i := i) (base := base) (by omega) (by omega)
    have e2 := sg_base (s := true) (m := n) (i := j) (base := base) (by omega) (by omega)
    rw [h3] at e1
    rw [k3] at e2
    have e3 : (X : Int) - (Y : Int) = tot * ((2 ^ (base + 1120).toNat : Nat) : Int) := by
      rw [ht, Int.add_mul, ← e1, ← e2]
      rfl
    rw [e3, Int.natAbs_mul, Int.natAbs_natCast]
  obtain ⟨R, r1, r2, -⟩ := near_num (if tot = 0 then (false && true) else decide (tot < 0)) tot.natAbs base (by omega) (by
    rw [e]
    have h4 : ((X : Int) - (Y : Int)).natAbs < 2 ^ 1800 := by omega
    exact Nat.lt_of_lt_of_le h4 (Nat.pow_le_pow_right (by decide) (by decide)))
  rw [e] at r2
  refine ⟨_, _, R, ?_, r1, r2⟩
  unfold Format.sub
  rw [h1, k1]
  unfold Datum.opposite Datum.sum
  dsimp only
  rw [← hb]
  have e4 : signed false m (i - base).toNat + signed (!false) n (j - base).toNat = tot := ht.symm
  rw [e4]
  rfl

/-- A number against itself: nought. -/
theorem sub_self {x : Nat} {s : Bool} {m : Nat} {i : Int} (h : double.read x = .number s m i) : double.sub x x = some 0 := by
  unfold Format.sub
  rw [h]
  unfold Datum.opposite Datum.sum
  dsimp only
  have e1 : signed s m (i - min i i).toNat + signed (!s) m (i - min i i).toNat = 0 := by
    unfold signed
    cases s
    · simp; omega
    · simp; omega
  rw [e1, if_pos rfl]
  have e2 : (s && !s) = false := by cases s <;> rfl
  rw [e2]
  rfl

theorem order_self {x : Nat} {s : Bool} {m : Nat} {i : Int} (h : double.read x = .number s m i) : double.order x x = some .eq := by
  unfold Format.order
  rw [h]
  unfold Datum.order
  dsimp only
  rw [cmp_eq rfl]

theorem num0 : Num 0 false 0 := ⟨0, -1074, by decide, by decide, by decide⟩
theorem num34 : double.read 4604930618986332160 = .number false 6755399441055744 (-53) := by decide
theorem num34m : double.read 13828302655841107968 = .number true 6755399441055744 (-53) := by decide
theorem num13 : double.read 4801453603149578240 = .number false 5120000000000000 (-9) := by decide

/-- The whole part. -/
theorem Num.toInt {x X : Nat} (h : Num x false X) : (double.read x).toInt .zero = some ((X / 2 ^ 1120 : Nat) : Int) := by
  obtain ⟨m, i, h1, h2, h3⟩ := h
  rw [h1]
  unfold Datum.toInt Datum.integral
  dsimp only
  rw [signed_sg, Nat.pow_zero, Nat.mul_one]
  show some (((Toward.zero.cut false (m <<< i.toNat) (-i).toNat : Nat) : Int)) = _
  congr 2
  rw [Nat.shiftLeft_eq]
  have hc : ∀ n drop, Toward.zero.cut false n drop = n / 2 ^ drop := by
    intro n drop
    unfold Toward.cut
    dsimp only
    rw [Nat.one_shiftLeft, Bool.toNat_false, Nat.add_zero]
    by_cases hd : drop ≤ n.log2 + 2
    · rw [Nat.min_eq_left hd]
    · rw [Nat.min_eq_right (by omega)]
      have h1 : n < 2 ^ (n.log2 + 1) := Nat.lt_log2_self
      rw [Nat.div_eq_of_lt (Nat.lt_of_lt_of_le h1 (Nat.pow_le_pow_right (by decide) (by omega))), Nat.div_eq_of_lt (Nat.lt_of_lt_of_le h1 (Nat.pow_le_pow_right (by decide) (by omega)))]
  rw [hc, ← h3]
  by_cases hi : 0 ≤ i
  · have e1 : (i + 1120).toNat = i.toNat + 1120 := by omega
    have e2 : (-i).toNat = 0 := by omega
    rw [e1, e2, Nat.pow_add, ← Nat.mul_assoc, Nat.mul_div_cancel _ (pw _), Nat.pow_zero, Nat.div_one]
  · have e1 : i.toNat = 0 := by omega
    have e2 : 1120 = (i + 1120).toNat + (-i).toNat := by omega
    have e3 : 2 ^ 1120 = 2 ^ (i + 1120).toNat * 2 ^ (-i).toNat := by rw [← Nat.pow_add, ← e2]
    rw [e1, Nat.pow_zero, Nat.mul_one, e3, Nat.mul_comm m, Nat.mul_div_mul_left _ _ (pw _)]

end Go.Proofs.Qxb6614069aDoor
