import Derived.Test.Qxb6614069aDoorUint
import Derived.Laws.Bits64b
namespace Go.Proofs.Qxb6614069aDoor
open Go.RowKit Go.Lib

set_option maxRecDepth 100000 in
set_option maxHeartbeats 1000000 in
theorem log10_any (x : Int) (h0 : -2000 ≤ x) (h1 : x ≤ 2000) (w : World) : Calls Tryd.prog 37 #[.int .i64 x] w fun e w' => e = .returned (.int .i64 (x * 78913 / 262144)) ∧ w' = w := by
  go_enter Tryd.func37, Tryd.ntmps37
  go_wp2
  go_ret
  exact ⟨rfl, rfl⟩

set_option maxRecDepth 100000 in
set_option maxHeartbeats 1000000 in
theorem log2_any (x : Int) (h0 : -2000 ≤ x) (h1 : x ≤ 2000) (w : World) : Calls Tryd.prog 59 #[.int .i64 x] w fun e w' => e = .returned (.int .i64 (x * 108853 / 32768)) ∧ w' = w := by
  go_enter Tryd.func59, Tryd.ntmps59
  go_wp2
  go_ret
  exact ⟨rfl, rfl⟩

theorem and63 (s : Nat) (hs : s < 64) : bits .and .i64 (s : Int) 63 = (s : Int) := by
  have : ∀ s : Fin 64, bits .and .i64 ((s.val : Nat) : Int) 63 = ((s.val : Nat) : Int) := by decide
  exact this ⟨s, hs⟩

/-- A number with the mark 'there was more' in its last bit. -/
def st (a : Nat) (b : Bool) : Nat := if b = true ∧ a % 2 = 0 then a + 1 else a

theorem st_le (a : Nat) (b : Bool) : st a b ≤ a + 1 := by unfold st; split <;> omega

theorem or_st (a : Nat) : a ||| 1 = st a true := by
  unfold st
  apply Nat.eq_of_testBit_eq
  intro i
  cases i with
  | zero =>
    rw [Nat.testBit_or]
    by_cases h : a % 2 = 0
    · simp [h, Nat.testBit_zero]; omega
    · simp [h, Nat.testBit_zero]; omega
  | succ i =>
    rw [Nat.testBit_or, Nat.testBit_succ, Nat.testBit_succ]
    have : Nat.testBit (1 / 2) i = false := by simp
    rw [this, Bool.or_false]
    by_cases h : a % 2 = 0
    · simp only [h, and_self, if_true]
      rw [Nat.testBit_succ]; congr 1; omega
    · simp [h, Nat.testBit_succ]

theorem or_u64 (a : Nat) (h : a < 18446744073709551616) : bits .or .u64 (a : Int) 1 = ((st a true : Nat) : Int) := by
  have := bits_or_u64_nat a 1 h (by decide)
  rw [or_st] at this
  exact this

theorem or0_u64 (a : Nat) (h : a < 18446744073709551616) : bits .or .u64 (a : Int) 0 = (a : Int) := by
  have := bits_or_u64_nat a 0 h (by decide)
  simpa using this

theorem and1_u64 (a : Nat) (h : a < 18446744073709551616) : bits .and .u64 (a : Int) 1 = ((a % 2 : Nat) : Int) := by
  have := bits_and_u64_nat a 1 h (by decide)
  rw [Nat.and_one_is_mod] at this
  exact this

set_option maxRecDepth 100000 in
set_option maxHeartbeats 1000000 in
theorem bool2u_any (b : Bool) (w : World) : Calls Tryd.prog 74 #[.bool b] w fun e w' => e = .returned (.int .u64 (if b then 1 else 0)) ∧ w' = w := by
  cases b
  · go_enter Tryd.func74, Tryd.ntmps74
    go_wp2
    go_ret
    exact ⟨rfl, rfl⟩
  · go_enter Tryd.func74, Tryd.ntmps74
    go_wp2
    go_ret
    exact ⟨rfl, rfl⟩

set_option maxRecDepth 100000 in
set_option maxHeartbeats 1000000 in
theorem bool2r_any (b : Bool) (w : World) : Calls Tryd.prog 75 #[.bool b] w fun e w' => e = .returned (.int .u64 (if b then 1 else 0)) ∧ w' = w := by
  cases b
  · go_enter Tryd.func75, Tryd.ntmps75
    go_wp2
    go_ret
    exact ⟨rfl, rfl⟩
  · go_enter Tryd.func75, Tryd.ntmps75
    go_wp2
    go_ret
    exact ⟨rfl, rfl⟩

/-- The scaled number, unrounded. -/
def usc (x hi s : Nat) : Nat := st (x * hi / 18446744073709551616 / 2 ^ s) (decide (x * hi / 18446744073709551616 % 2 ^ s ≠ 0) || decide (1 < x * hi % 18446744073709551616))

set_option maxRecDepth 100000 in
set_option maxHeartbeats 1000000 in
theorem uscale_any (x hi s : Nat) (hx : x < 18446744073709551616) (hhi : hi < 18446744073709551616) (hs : s < 64) (P : Nat) (w : World) (c0 : w.cell? ⟨P, 0, none⟩ = some (.int .u64 hi)) (c1 : w.cell? ⟨P, 1, none⟩ = some (.int .u64 0)) (c2 : w.cell? ⟨P, 2, none⟩ = some (.int .i64 s)) :
    Calls Tryd.prog 60 #[.int .u64 x, .pointer (some ⟨P, 0, none⟩)] w fun e w' => e = .returned (.int .u64 (usc x hi s : Nat)) ∧ ∃ n, w' = w.drewN n := by
  have H1 := hide (Tryd.bits_Mul64 x hi hx hhi w)
  have H2 := Tryd.bits_Mul64 x 0 hx (by decide) w
  simp only [Nat.mul_zero, Nat.zero_div, Nat.zero_mod] at H2
  have H2' := hide H2
  clear H2
  have hus : Hid (usc x hi s = st (x * hi / 18446744073709551616 / 2 ^ s) (decide (x * hi / 18446744073709551616 % 2 ^ s ≠ 0) || decide (1 < x * hi % 18446744073709551616))) := rfl
  obtain ⟨u, hu⟩ : ∃ u, u = usc x hi s := ⟨_, rfl⟩
  rw [← hu] at hus ⊢
  clear hu
  obtain ⟨h, hh⟩ : ∃ h, h = x * hi / 18446744073709551616 := ⟨_, rfl⟩
  obtain ⟨mid, hmid⟩ : ∃ mid, mid = x * hi % 18446744073709551616 := ⟨_, rfl⟩
  rw [← hh, ← hmid] at H1 hus
  have hmidl : mid < 18446744073709551616 := by omega
  have hhl : h < 18446744073709551616 := by
    rw [hh, Nat.div_lt_iff_lt_mul (by decide)]
    exact Nat.mul_lt_mul'' hx hhi
  clear hh hmid
  have h63 := and63 s hs
  obtain ⟨q, hq⟩ : ∃ q, q = h / 2 ^ s := ⟨_, rfl⟩
  have eq : (h : Int) / 2 ^ s = (q : Int) := by rw [hq]; push_cast; rfl
  have hqh : q ≤ h := by rw [hq]; exact Nat.div_le_self _ _
  have hq2 : q * 2 ^ s + h % 2 ^ s = h := by rw [hq, Nat.mul_comm]; exact Nat.div_add_mod _ _
  rw [← hq] at hus
  have HB := hide bool2u_any
  by_cases hm : h % 2 ^ s = 0
  · have e28 : IntKind.u64.wrap ((q : Int) * 2 ^ s) = (h : Int) := by
      have e : (q : Int) * 2 ^ s = (h : Int) := by
        have e2 : q * 2 ^ s = h := by omega
        rw [← e2]; push_cast; rfl
      rw [e, IntKind.wrap_u64]; omega
    by_cases h1 : 1 < mid
    · have ho := or_u64 q (by omega)
      have hu2 : Hid (u = st q true) := by
        unfold Hid; have := unhide hus; rw [hm] at this; simpa [h1] using this
      have h1B : decide ((1 : Int) < (mid : Int)) = true := decide_eq_true (by omega)
      clear hus hm hq hq2
      go_enter Tryd.func60, Tryd.ntmps60
      go_wp2_with fail
      refine (unhide H1).mono ?_
      rintro e w' ⟨rfl, hw⟩
      replace hw := hw.symm
      subst hw
      go_wp2_with fail
      refine (unhide H2').mono ?_
      rintro e w' ⟨rfl, hw⟩
      replace hw := hw.symm
      subst hw
      go_wp2_with fail
      refine (unhide HB _ _).mono ?_
      rintro e w' ⟨rfl, hw⟩
      replace hw := hw.symm
      subst hw
      go_wp2
      go_quiet (first | (go_at_call 74; refine Calls.quiet_of_same (unhide HB _ _)))
      go_wp2
      go_ret
      exact ⟨by rw [unhide hu2]; rfl, _, rfl⟩
    · have ho := or0_u64 q (by omega)
      have hu2 : Hid (u = q) := by
        unfold Hid; have := unhide hus; rw [hm] at this; simpa [h1, st] using this
      have h1B : decide ((1 : Int) < (mid : Int)) = false := decide_eq_false (by omega)
      clear hus hm hq hq2
      go_enter Tryd.func60, Tryd.ntmps60
      go_wp2_with fail
      refine (unhide H1).mono ?_
      rintro e w' ⟨rfl, hw⟩
      replace hw := hw.symm
      subst hw
      go_wp2_with fail
      refine (unhide H2').mono ?_
      rintro e w' ⟨rfl, hw⟩
      replace hw := hw.symm
      subst hw
      go_wp2_with fail
      refine (unhide HB _ _).mono ?_
      rintro e w' ⟨rfl, hw⟩
      replace hw := hw.symm
      subst hw
      go_wp2
      go_quiet (first | (go_at_call 74; refine Calls.quiet_of_same (unhide HB _ _)))
      go_wp2
      go_ret
      exact ⟨by rw [unhide hu2]; rfl, _, rfl⟩
  · obtain ⟨q2, hq2d⟩ : ∃ q2, q2 = q * 2 ^ s := ⟨_, rfl⟩
    rw [← hq2d] at hq2
    have e28 : IntKind.u64.wrap ((q : Int) * 2 ^ s) = (q2 : Int) := by
      have e : (q : Int) * 2 ^ s = (q2 : Int) := by rw [hq2d]; push_cast; rfl
      rw [e, IntKind.wrap_u64]; omega
    have hne : ¬ ((q2 : Int) = (h : Int)) := by omega
    have ho := or_u64 q (by omega)
    have hu2 : Hid (u = st q true) := by
        unfold Hid; have := unhide hus; simpa [hm] using this
    clear hus hm hq hq2 hq2d
    go_enter Tryd.func60, Tryd.ntmps60
    go_wp2_with fail
    refine (unhide H1).mono ?_
    rintro e w' ⟨rfl, hw⟩
    replace hw := hw.symm
    subst hw
    go_wp2
    go_ret
    exact ⟨by rw [unhide hu2]; rfl, 0, rfl⟩

/-- To the nearest, ties to even. -/
def uround (x : Nat) : Nat := (x + 1 + x / 4 % 2) / 4

set_option maxRecDepth 100000 in
set_option maxHeartbeats 1000000 in
theorem round_u (x : Nat) (hx : x < 9223372036854775808) (w : World) : Calls Tryd.prog 64 #[.int .u64 x] w fun e w' => e = .returned (.int .u64 (uround x : Nat)) ∧ w' = w := by
  obtain ⟨q, hq⟩ : ∃ q, q = x / 4 := ⟨_, rfl⟩
  have eq : (x : Int) / 4 = (q : Int) := by omega
  have ha := and1_u64 q (by omega)
  obtain ⟨r, hr⟩ : ∃ r, r = q % 2 := ⟨_, rfl⟩
  rw [← hr] at ha
  have hr1 : r ≤ 1 := by omega
  have hfin : Hid (((x : Int) + 1 + (r : Int)) / 4 = ((uround x : Nat) : Int)) := by
    unfold Hid uround; rw [← hq, ← hr]; omega
  clear hq hr
  go_enter Tryd.func64, Tryd.ntmps64
  go_wp2
  go_ret
  exact ⟨by rw [← unhide hfin]; rfl, rfl⟩

/-- A tenth, unrounded. -/
def udiv10 (x : Nat) : Nat := st (x / 10) (decide (x % 10 ≠ 0))

set_option maxRecDepth 100000 in
set_option maxHeartbeats 1000000 in
theorem div_u (x : Nat) (hx : x < 9223372036854775808) (w : World) : Calls Tryd.prog 66 #[.int .u64 x, .int .u64 10] w fun e w' => e = .returned (.int .u64 (udiv10 x : Nat)) ∧ ∃ n, w' = w.drewN n := by
  obtain ⟨q, hq⟩ : ∃ q, q = x / 10 := ⟨_, rfl⟩
  have eq : (x : Int) / 10 = (q : Int) := by omega
  obtain ⟨r, hr⟩ : ∃ r, r = x % 10 := ⟨_, rfl⟩
  have er : (x : Int) % 10 = (r : Int) := by omega
  have HB := hide bool2r_any
  have hud : Hid (udiv10 x = st q (decide (r ≠ 0))) := by unfold Hid udiv10; rw [hq, hr]
  obtain ⟨u, hu⟩ : ∃ u, u = udiv10 x := ⟨_, rfl⟩
  rw [← hu] at hud ⊢
  clear hu
  have ha := and1_u64 x (by omega)
  have hst : st (st q true) true = st q true := by unfold st; split <;> simp <;> omega
  by_cases h2 : x % 2 = 0
  · rw [h2] at ha
    have o1 := or0_u64 q (by omega)
    by_cases h10 : r = 0
    · subst h10
      have hu2 : Hid (u = q) := by unfold Hid; have := unhide hud; simpa [st] using this
      clear hq hr hud hst h2
      go_enter Tryd.func66, Tryd.ntmps66
      go_wp2
      go_quiet (first | (go_at_call 75; refine Calls.quiet_of_same (unhide HB _ _)))
      go_wp2
      go_ret
      exact ⟨by rw [unhide hu2]; rfl, _, rfl⟩
    · have o2 := or_u64 q (by omega)
      have hu2 : Hid (u = st q true) := by unfold Hid; have := unhide hud; simpa [h10] using this
      have hrI : ((r : Int) != 0) = true := by simp; omega
      clear hq hr hud hst h2
      go_enter Tryd.func66, Tryd.ntmps66
      go_wp2
      go_quiet (first | (go_at_call 75; refine Calls.quiet_of_same (unhide HB _ _)))
      go_wp2
      go_ret
      exact ⟨by rw [unhide hu2]; rfl, _, rfl⟩
  · have e1 : x % 2 = 1 := by omega
    rw [e1] at ha
    have o1 := or_u64 q (by omega)
    have hsl := st_le q true
    have o2 := or_u64 (st q true) (by omega)
    rw [hst] at o2
    have h10 : r ≠ 0 := by omega
    have hu2 : Hid (u = st q true) := by unfold Hid; have := unhide hud; simpa [h10] using this
    have hrI : ((r : Int) != 0) = true := by simp; omega
    obtain ⟨z, hz⟩ : ∃ z, z = st q true := ⟨_, rfl⟩
    rw [← hz] at o1 o2 hu2
    clear hq hr hud hst h2 hsl hz
    go_enter Tryd.func66, Tryd.ntmps66
    go_wp2
    go_quiet (first | (go_at_call 75; refine Calls.quiet_of_same (unhide HB _ _)))
    go_wp2
    go_ret
    exact ⟨by rw [unhide hu2]; rfl, _, rfl⟩

set_option maxRecDepth 100000 in
set_option maxHeartbeats 1000000 in
theorem unmin_any (x : Nat) (h1 : 1 ≤ x) (hx : x ≤ 1000000000000000000) (w : World) : Calls Tryd.prog 65 #[.int .u64 x] w fun e w' => e = .returned (.int .u64 ((x : Int) * 4 - 2)) ∧ w' = w := by
  go_enter Tryd.func65, Tryd.ntmps65
  go_wp2
  go_ret
  exact ⟨rfl, rfl⟩

end Go.Proofs.Qxb6614069aDoor
