import Derived.Test.Qxb6614069aDoorDist3
namespace Go.Proofs.Qxb6614069aDoor
open Go.RowKit Go.Lib Ieee

/-- The text behind the sign, in parts. -/
structure DParts (s0 ip fp : ByteArray) (n H : Nat) : Prop where
  n1 : 1 ≤ n
  sz : s0.size = n + 3
  dot : ∀ h : n < s0.size, s0[n] = 46
  cut1 : s0.extract 0 n = ip
  cut2 : s0.extract (n + 1) (n + 3) = fp
  isz : ip.size = n
  fsz : fp.size = 2
  idg : ∀ j (hj : j < ip.size), ip[j].toNat = 48 + H / 100 / 10 ^ (n - 1 - j) % 10
  lead : 1 < n → ∀ h : 0 < ip.size, ip[0] ≠ 48
  f0 : ∀ h : 0 < fp.size, fp[0].toNat = 48 + H / 10 % 10
  f1 : ∀ h : 1 < fp.size, fp[1].toNat = 48 + H % 10
  top : H / 100 < 10 ^ n

theorem dparts (H : Nat) : DParts (bstr (decDigits (H / 100) ++ [46] ++ [dg H 1, dg H 0])) (bstr (decDigits (H / 100))) (bstr [dg H 1, dg H 0]) (nDigits (H / 100)) H := by
  have hl := decDigits_length (H / 100)
  have hp := nDigits_pos (H / 100)
  have htop := lt_pow_nDigits (H / 100)
  obtain ⟨D, hD⟩ : ∃ D, D = decDigits (H / 100) := ⟨_, rfl⟩
  obtain ⟨n, hn⟩ : ∃ n, n = nDigits (H / 100) := ⟨_, rfl⟩
  have hat : ∀ j, j < n → D[j]? = some (dg (H / 100) (n - 1 - j)) := by
    intro j hj
    rw [hD, decDigits_eq, ← hn, List.getElem?_map, List.getElem?_range hj]
    rfl
  rw [← hD, ← hn] at hl
  rw [← hD, ← hn]
  rw [← hn] at hp htop
  refine ⟨hp, by rw [bstr_size]; simp; omega, fun h => ?_, ?_, ?_, by rw [bstr_size, hl], by rw [bstr_size]; rfl, fun j hj => ?_, fun h1 h => ?_, fun h => ?_, fun h => ?_, htop⟩
  · refine bstr_at _ _ _ ?_ h
    rw [List.getElem?_append_left (by simp; omega), List.getElem?_append_right (by omega), hl, Nat.sub_self]
    rfl
  · have h1 := bstr_head D ([46] ++ [dg H 1, dg H 0])
    rw [bstr_size, hl, ← List.append_assoc] at h1
    exact h1
  · have h1 := bstr_tail (D ++ [46]) [dg H 1, dg H 0]
    have e1 : (D ++ [46] ++ [dg H 1, dg H 0]).length = n + 3 := by simp; omega
    have e2 : (D ++ [46]).length = n + 1 := by simp; omega
    rw [bstr_size, e1, e2] at h1
    exact h1
  · have hj' : j < n := by rw [bstr_size, hl] at hj; exact hj
    rw [bstr_at D j _ (hat j hj') hj, dg_toNat]
  · rw [bstr_at D 0 _ (hat 0 (by omega)) h]
    intro e
    have h2 := congrArg UInt8.toNat e
    rw [dg_toNat] at h2
    have h3 : 10 ^ (n - 1) ≤ H / 100 := by
      rw [hn]
      refine pow_nDigits_le _ ?_
      rcases Nat.eq_zero_or_pos (H / 100) with e | e
      · rw [e, nDigits_small (by decide)] at hn; omega
      · exact e
    have h4 : H / 100 / 10 ^ (n - 1) < 10 := by
      rw [Nat.div_lt_iff_lt_mul (Nat.pow_pos (by decide))]
      have : 10 ^ n = 10 * 10 ^ (n - 1) := by rw [← Nat.pow_succ']; congr 1; omega
      omega
    have h5 : 1 ≤ H / 100 / 10 ^ (n - 1) := (Nat.le_div_iff_mul_le (Nat.pow_pos (by decide))).2 (by omega)
    have h6 : (48 : UInt8).toNat = 48 := rfl
    rw [h6, Nat.sub_zero] at h2
    omega
  · rw [bstr_at _ 0 _ rfl h, dg_toNat, Nat.pow_one]
  · rw [bstr_at _ 1 _ rfl h, dg_toNat, Nat.pow_zero, Nat.div_one]

/-- The next digit taken in. -/
theorem dig_step (V n j : Nat) (hj : j < n) : V / 10 ^ (n - j) * 10 + V / 10 ^ (n - 1 - j) % 10 = V / 10 ^ (n - (j + 1)) := by
  have e1 : n - j = (n - 1 - j) + 1 := by omega
  have e2 : n - (j + 1) = n - 1 - j := by omega
  rw [e2, e1, Nat.pow_succ, ← Nat.div_div_eq_div_mul]
  omega

end Go.Proofs.Qxb6614069aDoor
