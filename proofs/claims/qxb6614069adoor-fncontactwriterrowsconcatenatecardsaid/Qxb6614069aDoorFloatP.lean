import Ieee.Arith
namespace Go.Proofs.Qxb6614069aDoor
open Ieee

theorem d_least : double.leastPlace = -1074 := by decide
theorem d_bin : double.binade = 4503599627370496 := by decide
theorem d_inf : double.infRung = 9218868437227405312 := by decide
theorem d_sw : double.signWeight = 9223372036854775808 := by decide
theorem d_fb : double.fractionBits = 52 := rfl
theorem pow53 : 2 ^ 53 = 9007199254740992 := by decide
theorem pow52 : 2 ^ 52 = 4503599627370496 := by decide

theorem pw (k : Nat) : 0 < 2 ^ k := Nat.two_pow_pos k

theorem cut_far (s : Bool) (n drop : Nat) (h : n.log2 + 2 < drop) : Toward.even.cut s n drop = 0 := by
  have h1 : n < 2 ^ (n.log2 + 1) := Nat.lt_log2_self
  have h2 : 2 ^ (n.log2 + 2) = 2 * 2 ^ (n.log2 + 1) := by rw [Nat.pow_succ, Nat.mul_comm]
  unfold Toward.cut
  rw [Nat.min_eq_right (by omega), Nat.one_shiftLeft]
  dsimp only
  have h3 : n / 2 ^ (n.log2 + 2) = 0 := Nat.div_eq_of_lt (by omega)
  have h4 : n % 2 ^ (n.log2 + 2) = n := Nat.mod_eq_of_lt (by omega)
  rw [h3, h4]
  have h5 : ¬ (2 ^ (n.log2 + 2) < 2 * n) := by omega
  simp [h5]

theorem cut_near (s : Bool) (n drop : Nat) (h : drop ≤ n.log2 + 2) : Toward.even.cut s n drop = n / 2 ^ drop + (decide (2 ^ drop < 2 * (n % 2 ^ drop)) || (2 ^ drop == 2 * (n % 2 ^ drop) && n / 2 ^ drop % 2 == 1)).toNat := by
  unfold Toward.cut
  rw [Nat.min_eq_left h, Nat.one_shiftLeft]

theorem cut_le (s : Bool) (n drop k : Nat) (h : n ≤ k * 2 ^ drop) : Toward.even.cut s n drop ≤ k := by
  by_cases hd : drop ≤ n.log2 + 2
  · rw [cut_near s n drop hd]
    have hp := pw drop
    have h1 : n / 2 ^ drop ≤ k := by
      rw [Nat.div_le_iff_le_mul hp]; omega
    by_cases h2 : n / 2 ^ drop = k
    · have h3 := Nat.div_add_mod n (2 ^ drop)
      rw [h2, Nat.mul_comm] at h3
      have h4 : n % 2 ^ drop = 0 := by omega
      rw [h4]
      have h5 : (2 ^ drop == 2 * 0) = false := by rw [beq_eq_false_iff_ne]; omega
      have h6 : decide (2 ^ drop < 2 * 0) = false := by simp
      rw [h5, h6]
      simp
      omega
    · have h3 := Bool.toNat_le (decide (2 ^ drop < 2 * (n % 2 ^ drop)) || (2 ^ drop == 2 * (n % 2 ^ drop) && n / 2 ^ drop % 2 == 1))
      omega
  · rw [cut_far s n drop (by omega)]; omega

theorem cut_ge (s : Bool) (n drop k : Nat) (h : k * 2 ^ drop ≤ n) : k ≤ Toward.even.cut s n drop := by
  by_cases hd : drop ≤ n.log2 + 2
  · rw [cut_near s n drop hd]
    have h1 : k ≤ n / 2 ^ drop := (Nat.le_div_iff_mul_le (pw drop)).2 h
    omega
  · have h1 : n < 2 ^ (n.log2 + 1) := Nat.lt_log2_self
    have h2 : 2 ^ (n.log2 + 1) ≤ 2 ^ drop := Nat.pow_le_pow_right (by decide) (by omega)
    have h3 : k = 0 := by
      rcases Nat.eq_zero_or_pos k with e | e
      · exact e
      · have := Nat.mul_le_mul_right (2 ^ drop) e
        omega
    omega

/-- A word of a rung reads as the number of the rung. -/
theorem read_rung (s : Bool) (e k : Nat) (hk : k ≤ 9007199254740992) (hek : e = 0 ∨ 4503599627370496 ≤ k) (he : e ≤ 2000) :
    ∃ m i, double.read (double.word s (e * 4503599627370496 + k)) = .number s m i ∧ -1074 ≤ i ∧ m * 2 ^ (i + 1120).toNat = k * 2 ^ (e + 46) := by
  unfold Format.read Format.word
  rw [d_sw, d_bin, d_inf, d_least]
  have h0 : e * 4503599627370496 + k < 9218868437227405312 := by omega
  have hq : ((if s then 9223372036854775808 + (e * 4503599627370496 + k) else e * 4503599627370496 + k) / 9223372036854775808 % 2 == 1) = s := by
    cases s
    · have : (e * 4503599627370496 + k) / 9223372036854775808 = 0 := Nat.div_eq_of_lt (by omega)
      simp [this]
    · have : (9223372036854775808 + (e * 4503599627370496 + k)) / 9223372036854775808 = 1 := by omega
      simp [this]
  have hr : (if s then 9223372036854775808 + (e * 4503599627370496 + k) else e * 4503599627370496 + k) % 9223372036854775808 = e * 4503599627370496 + k := by
    cases s
    · simp; omega
    · simp; omega
  dsimp only
  rw [hq, hr]
  by_cases h1 : k < 4503599627370496
  · have e0 : e = 0 := by omega
    subst e0
    rw [if_pos (by omega)]
    exact ⟨_, _, rfl, by decide, by rw [Nat.zero_mul, Nat.zero_add, Nat.zero_add]; rfl⟩
  · rw [if_neg (by omega), if_pos h0]
    refine ⟨_, _, rfl, by omega, ?_⟩
    by_cases h2 : k = 9007199254740992
    · subst h2
      have a1 : (e * 4503599627370496 + 9007199254740992) / 4503599627370496 = e + 2 := by omega
      have a2 : (e * 4503599627370496 + 9007199254740992) % 4503599627370496 = 0 := by omega
      rw [a1, a2]
      have a3 : (-1074 + ((e + 2 - 1 : Nat) : Int) + 1120).toNat = e + 46 + 1 := by omega
      rw [a3, Nat.pow_succ]
      omega
    · have a1 : (e * 4503599627370496 + k) / 4503599627370496 = e + 1 := by omega
      have a2 : 4503599627370496 + (e * 4503599627370496 + k) % 4503599627370496 = k := by omega
      rw [a1, a2]
      have a3 : (-1074 + ((e + 1 - 1 : Nat) : Int) + 1120).toNat = e + 46 := by omega
      rw [a3]

/-- Rounding is monotone: what 'nearest' gives of 'mag * 2 ^ place' (in units of 2 ^ -1120) stands to every number of the format as the exact number does. -/
theorem near_spec (s : Bool) (mag : Nat) (place : Int) (hp : -1120 ≤ place) (hfin : mag * 2 ^ (place + 1120).toNat < 2 ^ 1900) :
    ∃ m i, double.read (double.nearest s mag place) = .number s m i ∧ -1074 ≤ i ∧
      (∀ n Q, n < 9007199254740992 → 46 ≤ Q → mag * 2 ^ (place + 1120).toNat ≤ n * 2 ^ Q → m * 2 ^ (i + 1120).toNat ≤ n * 2 ^ Q) ∧
      (∀ n Q, n < 9007199254740992 → 46 ≤ Q → n * 2 ^ Q ≤ mag * 2 ^ (place + 1120).toNat → n * 2 ^ Q ≤ m * 2 ^ (i + 1120).toNat) := by
  by_cases h0 : mag = 0
  · subst h0
    obtain ⟨m, i, h1, h2, h3⟩ := read_rung s 0 0 (by decide) (.inl rfl) (by decide)
    have e0 : double.nearest s 0 place = double.word s (0 * 4503599627370496 + 0) := by unfold Format.nearest; rw [if_pos rfl]
    rw [Nat.zero_mul] at h3
    refine ⟨m, i, by rw [e0]; exact h1, h2, fun n Q _ _ _ => by omega, fun n Q _ _ h => ?_⟩
    rw [Nat.zero_mul] at h
    omega
  · obtain ⟨A, hA⟩ : ∃ A, A = (place + 1120).toNat := ⟨_, rfl⟩
    have hlt : mag < 2 ^ (mag.log2 + 1) := Nat.lt_log2_self
    have hge : 2 ^ mag.log2 ≤ mag := Nat.log2_self_le h0
    obtain ⟨lg, hlg⟩ : ∃ lg, lg = mag.log2 := ⟨_, rfl⟩
    rw [← hlg] at hlt hge
    obtain ⟨L, hL⟩ : ∃ L, L = max (A + lg) 98 - 52 := ⟨_, rfl⟩
    have hlast : max (place + (lg : Int) - (52 : Nat)) (-1074) = (L : Int) - 1120 := by omega
    obtain ⟨up, hup⟩ : ∃ up, up = A - L := ⟨_, rfl⟩
    obtain ⟨D, hD⟩ : ∃ D, D = L - A := ⟨_, rfl⟩
    obtain ⟨kept, hkept⟩ : ∃ kept, kept = Toward.even.cut s (mag * 2 ^ up) D := ⟨_, rfl⟩
    have e1 : ((L : Int) - 1120 - -1074).toNat = L - 46 := by omega
    have e2 : (place - ((L : Int) - 1120)).toNat = up := by omega
    have e3 : ((L : Int) - 1120 - place).toNat = D := by omega
    have hnear : double.nearest s mag place = double.word s (min ((L - 46) * 4503599627370496 + kept) 9218868437227405312) := by
      unfold Format.nearest
      rw [if_neg h0]
      dsimp only
      rw [d_inf, d_bin, d_least, d_fb, ← hlg, hlast, hkept, Nat.shiftLeft_eq, e1, e2, e3]
    have key : mag * 2 ^ A * 2 ^ D = mag * 2 ^ up * 2 ^ L := by
      rw [Nat.mul_assoc, Nat.mul_assoc, ← Nat.pow_add, ← Nat.pow_add]
      congr 2
      omega
    have hle : ∀ n Q, L ≤ Q → mag * 2 ^ A ≤ n * 2 ^ Q → kept * 2 ^ L ≤ n * 2 ^ Q := by
      intro n Q hQ h
      have e1 : n * 2 ^ Q = n * 2 ^ (Q - L) * 2 ^ L := by rw [Nat.mul_assoc, ← Nat.pow_add]; congr 2; omega
      have h1 : kept ≤ n * 2 ^ (Q - L) := by
        rw [hkept]
        refine cut_le s _ _ _ ?_
        refine Nat.le_of_mul_le_mul_right ?_ (pw L)
        rw [← key, Nat.mul_right_comm (n * 2 ^ (Q - L)), ← e1]
        exact Nat.mul_le_mul_right _ h
      rw [e1]
      exact Nat.mul_le_mul_right _ h1
    have hgeK : ∀ n Q, L ≤ Q → n * 2 ^ Q ≤ mag * 2 ^ A → n * 2 ^ Q ≤ kept * 2 ^ L := by
      intro n Q hQ h
      have e1 : n * 2 ^ Q = n * 2 ^ (Q - L) * 2 ^ L := by rw [Nat.mul_assoc, ← Nat.pow_add]; congr 2; omega
      have h1 : n * 2 ^ (Q - L) ≤ kept := by
        rw [hkept]
        refine cut_ge s _ _ _ ?_
        refine Nat.le_of_mul_le_mul_right ?_ (pw L)
        rw [← key, Nat.mul_right_comm (n * 2 ^ (Q - L)), ← e1]
        exact Nat.mul_le_mul_right _ h
      rw [e1]
      exact Nat.mul_le_mul_right _ h1
    have hbig : 46 < L → 2 ^ (52 + L) ≤ mag * 2 ^ A := by
      intro h
      have e1 : 52 + L = lg + A := by omega
      rw [e1, Nat.pow_add]
      exact Nat.mul_le_mul_right _ hge
    have hsmall : mag * 2 ^ A ≤ 2 ^ 53 * 2 ^ L := by
      have h1 : mag * 2 ^ A ≤ 2 ^ (lg + 1) * 2 ^ A := Nat.mul_le_mul_right _ (Nat.le_of_lt hlt)
      refine Nat.le_trans h1 ?_
      rw [← Nat.pow_add, ← Nat.pow_add]
      exact Nat.pow_le_pow_right (by decide) (by omega)
    have hk53 : kept ≤ 9007199254740992 := by
      have h1 := hle (2 ^ 53) L (Nat.le_refl _) hsmall
      have h2 := Nat.le_of_mul_le_mul_right h1 (pw L)
      rwa [pow53] at h2
    have hk52 : 46 < L → 4503599627370496 ≤ kept := by
      intro h
      have h1 := hbig h
      rw [Nat.pow_add] at h1
      have h2 := Nat.le_of_mul_le_mul_right (hgeK _ L (Nat.le_refl _) h1) (pw L)
      rwa [pow52] at h2
    have hLlt : L < 1900 := by
      by_cases h : 46 < L
      · have h1 := hbig h
        rw [← hA] at hfin
        have h2 := (Nat.pow_lt_pow_iff_right (by decide : 1 < 2)).1 (Nat.lt_of_le_of_lt h1 hfin)
        omega
      · omega
    obtain ⟨m, i, r1, r2, r3⟩ := read_rung s (L - 46) kept hk53 (by
      by_cases h : 46 < L
      · exact .inr (hk52 h)
      · left; omega) (by omega)
    have hLL : L - 46 + 46 = L := by omega
    rw [hLL] at r3
    refine ⟨m, i, ?_, r2, ?_, ?_⟩
    · rw [hnear, Nat.min_eq_left (by omega)]; exact r1
    · intro n Q hn hQ h
      rw [← hA] at h
      rw [r3]
      by_cases hq : L ≤ Q
      · exact hle n Q hq h
      · exfalso
        have h1 := hbig (by omega)
        have h2 : 2 ^ (53 + Q) ≤ 2 ^ (52 + L) := Nat.pow_le_pow_right (by decide) (by omega)
        rw [Nat.pow_add] at h2
        have h3 : n * 2 ^ Q < 2 ^ 53 * 2 ^ Q := Nat.mul_lt_mul_of_pos_right (by rw [pow53]; exact hn) (pw Q)
        omega
    · intro n Q hn hQ h
      rw [← hA] at h
      rw [r3]
      by_cases hq : L ≤ Q
      · exact hgeK n Q hq h
      · have h2 : 2 ^ (53 + Q) ≤ 2 ^ (52 + L) := Nat.pow_le_pow_right (by decide) (by omega)
        rw [Nat.pow_add, Nat.pow_add] at h2
        have h3 : n * 2 ^ Q ≤ 2 ^ 53 * 2 ^ Q := Nat.mul_le_mul_right _ (by rw [pow53]; omega)
        have h4 : 2 ^ 52 * 2 ^ L ≤ kept * 2 ^ L := Nat.mul_le_mul_right _ (by rw [pow52]; exact hk52 (by omega))
        omega

end Go.Proofs.Qxb6614069aDoor
