import Derived.Test.Qxb6614069aDoorFtoa5
namespace Go.Proofs.Qxb6614069aDoor
open Go.RowKit Go.Lib

/-- N / D, its last bit set where anything is left over. -/
def stick (D N : Nat) : Nat := st (N / D) (decide (N % D ≠ 0))

theorem st_false (a : Nat) : st a false = a := by unfold st; simp

theorem st_true (a : Nat) : st a true = a / 2 * 2 + 1 := by
  unfold st
  by_cases h : a % 2 = 0
  · rw [if_pos ⟨rfl, h⟩]; omega
  · rw [if_neg (fun e => h e.2)]; omega

theorem stick_div (D N : Nat) (hD : 0 < D) : udiv10 (stick D (10 * N)) = stick D N := by
  have e1 : 10 * N / D / 10 = N / D := by
    rw [Nat.div_div_eq_div_mul, Nat.mul_comm D 10, Nat.mul_div_mul_left _ _ (by decide)]
  unfold udiv10 stick
  by_cases hr : 10 * N % D = 0
  · have h1 : decide (10 * N % D ≠ 0) = false := by simp [hr]
    rw [h1, st_false, e1]
    congr 1
    have h2 := Nat.div_add_mod (10 * N) D
    rw [hr, Nat.add_zero] at h2
    apply decide_eq_decide.2
    constructor
    · intro h e
      apply h
      have h3 := Nat.div_add_mod N D
      rw [e, Nat.add_zero] at h3
      have h4 : 10 * N / D = 10 * (N / D) := by
        have h5 : 10 * N = D * (10 * (N / D)) := by
          rw [Nat.mul_left_comm, h3]
        rw [h5, Nat.mul_div_cancel_left _ hD]
      omega
    · intro h e
      apply h
      obtain ⟨q, hq⟩ : ∃ q, 10 * N / D = 10 * q := ⟨10 * N / D / 10, by omega⟩
      rw [hq, Nat.mul_left_comm] at h2
      have h3 : N = D * q := by omega
      rw [h3]
      exact Nat.mul_mod_right _ _
  · have h1 : decide (10 * N % D ≠ 0) = true := by simp [hr]
    have hN : N % D ≠ 0 := fun e => hr (by rw [Nat.mul_mod, e]; simp)
    rw [h1, st_true, show decide (N % D ≠ 0) = true by simp [hN]]
    have e2 : (10 * N / D / 2 * 2 + 1) / 10 = N / D := by rw [← e1]; omega
    have e3 : decide ((10 * N / D / 2 * 2 + 1) % 10 ≠ 0) = true := by
      apply decide_eq_true
      omega
    rw [e2, e3]

/-- To round what sticks is to round to the nearest. -/
theorem round_stick (D N : Nat) (hD : 0 < D) : 4 * (uround (stick D N) * D) ≤ N + 2 * D ∧ N ≤ 4 * (uround (stick D N) * D) + 2 * D := by
  have hdm := Nat.div_add_mod N D
  have hlt := Nat.mod_lt N hD
  obtain ⟨n, hn⟩ : ∃ n, n = N / D := ⟨_, rfl⟩
  obtain ⟨k, hk⟩ : ∃ k, k = N % D := ⟨_, rfl⟩
  rw [← hn, ← hk] at hdm
  rw [← hk] at hlt
  unfold stick
  rw [← hn, ← hk]
  obtain ⟨q, r, hq, hr⟩ : ∃ q r, n = 4 * q + r ∧ r < 4 := ⟨n / 4, n % 4, by omega, by omega⟩
  have e1 : D * n = 4 * (q * D) + r * D := by rw [hq, Nat.mul_add, Nat.mul_comm D r, Nat.mul_left_comm, Nat.mul_comm D q]
  have key : ∀ x H, st n (decide (k ≠ 0)) = x → uround x = H → 4 * (H * D) ≤ N + 2 * D ∧ N ≤ 4 * (H * D) + 2 * D → 4 * (uround (st n (decide (k ≠ 0))) * D) ≤ N + 2 * D ∧ N ≤ 4 * (uround (st n (decide (k ≠ 0))) * D) + 2 * D := by
    intro x H e1 e2 h
    rw [e1, e2]; exact h
  have eH : (q + 1) * D = q * D + D := by rw [Nat.add_mul, Nat.one_mul]
  by_cases h0 : k = 0
  · have hf : decide (k ≠ 0) = false := by simp [h0]
    have hs : st n (decide (k ≠ 0)) = n := by rw [hf, st_false]
    have hr4 : r = 0 ∨ r = 1 ∨ r = 2 ∨ r = 3 := by omega
    rcases hr4 with rfl | rfl | rfl | rfl
    · exact key n q hs (by unfold uround; omega) (by omega)
    · exact key n q hs (by unfold uround; omega) (by omega)
    · by_cases hp : q % 2 = 0
      · exact key n q hs (by unfold uround; omega) (by omega)
      · exact key n (q + 1) hs (by unfold uround; omega) (by rw [eH]; omega)
    · exact key n (q + 1) hs (by unfold uround; omega) (by rw [eH]; omega)
  · have hf : decide (k ≠ 0) = true := by simp [h0]
    have hs : st n (decide (k ≠ 0)) = n / 2 * 2 + 1 := by rw [hf, st_true]
    have hr4 : r = 0 ∨ r = 1 ∨ r = 2 ∨ r = 3 := by omega
    rcases hr4 with rfl | rfl | rfl | rfl
    · exact key _ q hs (by unfold uround; omega) (by omega)
    · exact key _ q hs (by unfold uround; omega) (by omega)
    · exact key _ (q + 1) hs (by unfold uround; omega) (by rw [eH]; omega)
    · exact key _ (q + 1) hs (by unfold uround; omega) (by rw [eH]; omega)

theorem p10_2 : p10hi 2 = 100 * 144115188075855872 := by decide
theorem p10_3 : p10hi 3 = 1000 * 18014398509481984 := by decide

/-- The scaled number is exact: power two. -/
theorem usc_2 (M t : Nat) : usc (M * 2048) (p10hi 2) (t + 2) = stick (2 ^ t) (400 * M) := by
  have e1 : M * 2048 * p10hi 2 = 18446744073709551616 * (1600 * M) := by rw [p10_2]; omega
  unfold usc stick
  rw [e1, Nat.mul_div_cancel_left _ (by decide), Nat.mul_mod_right]
  have e2 : 1600 * M = 4 * (400 * M) := by omega
  have e3 : 2 ^ (t + 2) = 4 * 2 ^ t := by rw [Nat.pow_add, Nat.mul_comm]
  rw [e2, e3, Nat.mul_div_mul_left _ _ (by decide), Nat.mul_mod_mul_left]
  congr 1
  simp
  omega

theorem usc_3 (M t : Nat) (ht : 1 ≤ t) : usc (M * 2048) (p10hi 3) (t - 1) = stick (2 ^ t) (4000 * M) := by
  obtain ⟨s, rfl⟩ : ∃ s, t = s + 1 := ⟨t - 1, by omega⟩
  have e1 : M * 2048 * p10hi 3 = 18446744073709551616 * (2000 * M) := by rw [p10_3]; omega
  unfold usc stick
  rw [e1, Nat.mul_div_cancel_left _ (by decide), Nat.mul_mod_right]
  have e2 : 4000 * M = 2 * (2000 * M) := by omega
  have e3 : 2 ^ (s + 1) = 2 * 2 ^ s := by rw [Nat.pow_succ, Nat.mul_comm]
  rw [e2, e3, Nat.mul_div_mul_left _ _ (by decide), Nat.mul_mod_mul_left, Nat.add_sub_cancel]
  congr 1
  simp
  omega

theorem fPS_fin : ∀ i : Fin 62, (fP (1014 + i.val) = 2 ∧ fS (1014 + i.val) = (61 - i.val) + 2 ∧ 400 * 9007199254740992 / 2 ^ (61 - i.val) + 3 < 4 * 10 ^ fN (1014 + i.val)) ∨ (fP (1014 + i.val) = 3 ∧ fS (1014 + i.val) = (61 - i.val) - 1 ∧ 1 ≤ 61 - i.val) := by decide +kernel

theorem fPS (E : Nat) (h0 : 1014 ≤ E) (h1 : E ≤ 1075) : (fP E = 2 ∧ fS E = (1075 - E) + 2 ∧ 400 * 9007199254740992 / 2 ^ (1075 - E) + 3 < 4 * 10 ^ fN E) ∨ (fP E = 3 ∧ fS E = (1075 - E) - 1 ∧ 1 ≤ 1075 - E) := by
  have h := fPS_fin ⟨E - 1014, by omega⟩
  have e : 1014 + (E - 1014) = E := by omega
  have e2 : 61 - (E - 1014) = 1075 - E := by omega
  simp only [e, e2] at h
  exact h

/-- The middling floats are rounded right, to two places. -/
theorem fixU_eq (M E : Nat) (hM : M ≤ 9007199254740992) (h0 : 1014 ≤ E) (h1 : E ≤ 1075) : fixU (M * 2048) (fP E) (fN E) (fS E) = (uround (stick (2 ^ (1075 - E)) (400 * M)), 2) := by
  have hD := Nat.two_pow_pos (1075 - E)
  rcases fPS E h0 h1 with ⟨hp, hs, hb⟩ | ⟨hp, hs, ht⟩
  · rw [hp, hs]
    have hA : fixA (M * 2048) 2 (fN E) (1075 - E + 2) = (stick (2 ^ (1075 - E)) (400 * M), 2) := by
      unfold fixA
      rw [usc_2, if_neg]
      have h2 : stick (2 ^ (1075 - E)) (400 * M) ≤ 400 * M / 2 ^ (1075 - E) + 1 := st_le _ _
      have h3 : 400 * M / 2 ^ (1075 - E) ≤ 400 * 9007199254740992 / 2 ^ (1075 - E) := Nat.div_le_div_right (by omega)
      omega
    unfold fixU
    rw [hA]
    unfold fixC
    rw [if_neg (Nat.lt_irrefl 2)]
  · rw [hp, hs]
    have e4 : 4000 * M = 10 * (400 * M) := by omega
    have hA : fixA (M * 2048) 3 (fN E) (1075 - E - 1) = (stick (2 ^ (1075 - E)) (400 * M), 2) ∨ fixA (M * 2048) 3 (fN E) (1075 - E - 1) = (stick (2 ^ (1075 - E)) (4000 * M), 3) := by
      unfold fixA
      rw [usc_3 M _ ht]
      split
      · left; rw [e4, stick_div _ _ hD]
      · right; rfl
    unfold fixU
    rcases hA with hA | hA
    · rw [hA]; unfold fixC; rw [if_neg (Nat.lt_irrefl 2)]
    · rw [hA]; unfold fixC; rw [if_pos (Nat.lt_succ_self 2)]; dsimp only; rw [e4, stick_div _ _ hD]

end Go.Proofs.Qxb6614069aDoor
