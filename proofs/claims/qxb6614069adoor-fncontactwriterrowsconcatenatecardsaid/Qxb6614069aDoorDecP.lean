import Derived.Lib.ItoaNum
import Derived.Lib.ItoaLen
import GoSem.PinnedTables
import Derived.KernelRfl
namespace Go.Proofs.Qxb6614069aDoor
open Go.Lib

/-- The number that a row of digits spells. -/
def dval : List UInt8 → Nat
  | [] => 0
  | c :: cs => (c.toNat - 48) * 10 ^ cs.length + dval cs

def isDig (c : UInt8) : Prop := 48 ≤ c.toNat ∧ c.toNat ≤ 57

theorem dval_lt : ∀ (l : List UInt8), (∀ c ∈ l, isDig c) → dval l < 10 ^ l.length
  | [], _ => by simp [dval]
  | c :: cs, h => by
    have h1 := dval_lt cs (fun d hd => h d (List.mem_cons_of_mem _ hd))
    have h2 := h c (List.mem_cons_self ..)
    unfold isDig at h2
    simp only [dval, List.length_cons, Nat.pow_succ]
    have : (c.toNat - 48) * 10 ^ cs.length ≤ 9 * 10 ^ cs.length := Nat.mul_le_mul_right _ (by omega)
    omega

/-- Does the row come before the mark, digit by digit? -/
def pl : List UInt8 → List UInt8 → Bool
  | _, [] => false
  | [], _ :: _ => true
  | b :: bs, s :: ss => if b = s then pl bs ss else decide (b.toNat < s.toNat)

theorem pl_law : ∀ (s a : List UInt8), (∀ c ∈ a, isDig c) → (∀ c ∈ s, isDig c) → (s ≠ [] → s.getLast? = some 53) → (pl a s = true ↔ dval a * 10 ^ s.length < dval s * 10 ^ a.length)
  | [], a, _, _, _ => by cases a <;> simp [pl, dval]
  | s :: ss, [], _, hs, hl => by
    have hpos : 0 < dval (s :: ss) := by
      have : ∀ l : List UInt8, l.getLast? = some 53 → 0 < dval l := by
        intro l
        induction l with
        | nil => intro h; cases h
        | cons x xs ih =>
          intro h
          cases xs with
          | nil => simp at h; subst h; decide
          | cons y ys =>
            rw [List.getLast?_cons_cons] at h
            have := ih h
            rw [dval]
            omega
      exact this _ (hl (by simp))
    simp [pl, dval] at hpos ⊢
    omega
  | s :: ss, b :: bs, ha, hs, hl => by
    have hb := ha b (List.mem_cons_self ..)
    have hc := hs s (List.mem_cons_self ..)
    have h1 := dval_lt bs (fun d hd => ha d (List.mem_cons_of_mem _ hd))
    have h2 := dval_lt ss (fun d hd => hs d (List.mem_cons_of_mem _ hd))
    have ih := pl_law ss bs (fun d hd => ha d (List.mem_cons_of_mem _ hd)) (fun d hd => hs d (List.mem_cons_of_mem _ hd)) (fun hne => by
      have := hl (by simp)
      cases ss with
      | nil => exact absurd rfl hne
      | cons y ys => rwa [List.getLast?_cons_cons] at this)
    unfold isDig at hb hc
    have eX : dval (b :: bs) * 10 ^ (s :: ss).length = 10 * ((b.toNat - 48) * (10 ^ bs.length * 10 ^ ss.length)) + 10 * (dval bs * 10 ^ ss.length) := by
      simp only [dval, List.length_cons, Nat.pow_succ, Nat.add_mul]; congr 1 <;> simp only [Nat.mul_assoc, Nat.mul_comm]
    have eY : dval (s :: ss) * 10 ^ (b :: bs).length = 10 * ((s.toNat - 48) * (10 ^ bs.length * 10 ^ ss.length)) + 10 * (dval ss * 10 ^ bs.length) := by
      simp only [dval, List.length_cons, Nat.pow_succ, Nat.add_mul]; congr 1 <;> simp only [Nat.mul_assoc, Nat.mul_comm, Nat.mul_left_comm]
    rw [eX, eY]
    have l1 : dval bs * 10 ^ ss.length < 10 ^ bs.length * 10 ^ ss.length := Nat.mul_lt_mul_of_pos_right h1 (Nat.pow_pos (by decide))
    have l2 : dval ss * 10 ^ bs.length < 10 ^ bs.length * 10 ^ ss.length := by rw [Nat.mul_comm (10 ^ bs.length)]; exact Nat.mul_lt_mul_of_pos_right h2 (Nat.pow_pos (by decide))
    generalize 10 ^ bs.length * 10 ^ ss.length = Q at l1 l2 ⊢
    by_cases e : b = s
    · subst e
      rw [pl, if_pos rfl, ih]
      omega
    · rw [pl, if_neg e, decide_eq_true_iff]
      have hne : b.toNat ≠ s.toNat := fun h => e (UInt8.toNat_inj.1 h)
      constructor
      · intro hlt
        have : (b.toNat - 48) * Q + Q ≤ (s.toNat - 48) * Q := by
          rw [← Nat.succ_mul]; exact Nat.mul_le_mul_right _ (by omega)
        omega
      · intro hlt
        rcases Nat.lt_or_ge b.toNat s.toNat with h | h
        · exact h
        · exfalso
          have : (s.toNat - 48) * Q + Q ≤ (b.toNat - 48) * Q := by
            rw [← Nat.succ_mul]; exact Nat.mul_le_mul_right _ (by omega)
          omega

/-- What the table's row k says. -/
def rowOk (k : Nat) (r : Nat × List UInt8) : Bool :=
  dval r.2 == 5 ^ k && (r.1 + r.2.length == k + 1 && (r.2.all (fun c => decide (48 ≤ c.toNat) && decide (c.toNat ≤ 57)) && (r.2.getLast? == some 53 && (decide (5 ^ k < 10 ^ r.2.length) && decide (10 ^ (r.2.length - 1) ≤ 5 ^ k)))))

def rowsOk : Nat → List (Nat × List UInt8) → Bool
  | _, [] => true
  | k, r :: rs => rowOk k r && rowsOk (k + 1) rs

theorem cheat_ok : rowsOk 1 (Go.Pinned.cheatRows.drop 1) = true := by kernel_rfl
theorem cheat_len : Go.Pinned.cheatRows.length = 61 := by kernel_rfl

theorem rowsOk_at : ∀ (l : List (Nat × List UInt8)) (k i : Nat) (r : Nat × List UInt8), rowsOk k l = true → l[i]? = some r → rowOk (k + i) r = true
  | [], _, _, _, _, h => by simp at h
  | a :: l, k, 0, r, hk, h => by
    simp at h; subst h
    rw [rowsOk, Bool.and_eq_true] at hk
    exact hk.1
  | a :: l, k, i + 1, r, hk, h => by
    rw [rowsOk, Bool.and_eq_true] at hk
    have := rowsOk_at l (k + 1) i r hk.2 (by simpa using h)
    rwa [show k + 1 + i = k + (i + 1) by omega] at this

theorem cheat_row {k : Nat} (h1 : 1 ≤ k) (h60 : k ≤ 60) : ∃ d s, Go.Pinned.cheatRows[k]? = some (d, s) ∧ dval s = 5 ^ k ∧ d + s.length = k + 1 ∧ (∀ c ∈ s, isDig c) ∧ s.getLast? = some 53 ∧ 5 ^ k < 10 ^ s.length ∧ 10 ^ (s.length - 1) ≤ 5 ^ k := by
  have hl := cheat_len
  obtain ⟨r, hr⟩ : ∃ r, Go.Pinned.cheatRows[k]? = some r := ⟨Go.Pinned.cheatRows[k]'(by omega), by simp⟩
  have hk := rowsOk_at (Go.Pinned.cheatRows.drop 1) 1 (k - 1) r cheat_ok (by rw [List.getElem?_drop, show 1 + (k - 1) = k by omega]; exact hr)
  rw [show 1 + (k - 1) = k by omega] at hk
  unfold rowOk at hk
  simp only [Bool.and_eq_true, beq_iff_eq, decide_eq_true_eq, List.all_eq_true] at hk
  exact ⟨r.1, r.2, hr, hk.1, hk.2.1, fun c hc => hk.2.2.1 c hc, hk.2.2.2.1, hk.2.2.2.2.1, hk.2.2.2.2.2⟩

theorem pow_nDigits_le (u : Nat) (h : 1 ≤ u) : 10 ^ (nDigits u - 1) ≤ u := by
  induction u using Nat.strongRecOn with
  | _ u ih =>
    by_cases h10 : u < 10
    · rw [nDigits_small h10]; simpa using h
    · rw [nDigits_big h10]
      have := ih (u / 10) (by omega) (by omega)
      have hp := nDigits_pos (u / 10)
      rw [show nDigits (u / 10) + 1 - 1 = (nDigits (u / 10) - 1) + 1 by omega, Nat.pow_succ]
      omega

theorem nDigits_of (k u : Nat) (hk : 1 ≤ k) (h1 : 10 ^ (k - 1) ≤ u) (h2 : u < 10 ^ k) : nDigits u = k := by
  have := nDigits_unique (k - 1) u h1 (by rwa [show k - 1 + 1 = k by omega])
  omega

theorem decDigits_dig (u : Nat) : ∀ c ∈ decDigits u, isDig c := by
  intro c hc
  rw [decDigits_eq] at hc
  obtain ⟨t, _, rfl⟩ := List.mem_map.1 hc
  unfold isDig dg
  have : u / 10 ^ (nDigits u - 1 - t) % 10 < 10 := Nat.mod_lt _ (by decide)
  have e : (UInt8.ofNat (48 + u / 10 ^ (nDigits u - 1 - t) % 10)).toNat = 48 + u / 10 ^ (nDigits u - 1 - t) % 10 := by
    rw [UInt8.toNat_ofNat']; omega
  rw [e]; omega

theorem dval_append : ∀ (l m : List UInt8), dval (l ++ m) = dval l * 10 ^ m.length + dval m
  | [], m => by simp [dval]
  | c :: l, m => by
    simp only [List.cons_append, dval, dval_append l m, List.length_append, Nat.pow_add, Nat.add_mul, Nat.mul_assoc, Nat.add_assoc]

theorem dval_decDigits (u : Nat) : dval (decDigits u) = u := by
  induction u using Nat.strongRecOn with
  | _ u ih =>
    by_cases h10 : u < 10
    · rw [decDigits_one h10]
      simp only [dval]
      have e : (UInt8.ofNat (48 + u)).toNat = 48 + u := by rw [UInt8.toNat_ofNat']; omega
      rw [e]; simp
    · rw [decDigits, dif_neg h10, dval_append, ih (u / 10) (by omega)]
      simp only [dval, List.length_cons, List.length_nil]
      have e : (UInt8.ofNat (48 + u % 10)).toNat = 48 + u % 10 := by rw [UInt8.toNat_ofNat']; omega
      rw [e]; omega

/-- How many digits a shift brings: the table's number, less one where the row comes before the mark. -/
theorem shift_digits {k N d : Nat} {s : List UInt8} (hN : 1 ≤ N) (h1 : 1 ≤ k) (hs : dval s = 5 ^ k) (hd : d + s.length = k + 1) (hg : ∀ c ∈ s, isDig c) (hl : s.getLast? = some 53) (hlt : 5 ^ k < 10 ^ s.length) (hge : 10 ^ (s.length - 1) ≤ 5 ^ k) :
    nDigits (N * 2 ^ k) + (if pl (decDigits N) s then 1 else 0) = nDigits N + d := by
  have hlaw := pl_law s (decDigits N) (decDigits_dig N) hg (fun _ => hl)
  rw [dval_decDigits, decDigits_length, hs] at hlaw
  have hn1 := pow_nDigits_le N hN
  have hn2 := lt_pow_nDigits N
  have hnp := nDigits_pos N
  have hsl : 1 ≤ s.length := by
    cases s with
    | nil => simp at hl
    | cons => simp
  have h25 : 2 ^ k * 5 ^ k = 10 ^ k := by rw [← Nat.mul_pow]
  have hd1 : 1 ≤ d := by
    have : 10 ^ (s.length - 1) ≤ 5 ^ k := hge
    rcases Nat.lt_or_ge d 1 with h | h
    · exfalso
      have e : s.length - 1 = k := by omega
      rw [e] at hge
      have : (5 : Nat) ^ k < 10 ^ k := Nat.pow_lt_pow_left (by decide) (by omega)
      omega
    · exact h
  have p5 : 0 < 5 ^ k := Nat.pow_pos (by decide)
  have p2 : 0 < 2 ^ k := Nat.pow_pos (by decide)
  -- 2^k against powers of ten
  have hk1 : 10 ^ k = 10 ^ (d - 1) * 10 ^ s.length := by rw [← Nat.pow_add]; congr 1; omega
  have hk2 : 10 ^ k = 10 ^ d * 10 ^ (s.length - 1) := by rw [← Nat.pow_add]; congr 1; omega
  have u2 : 2 ^ k ≤ 10 ^ d := by
    apply Nat.le_of_mul_le_mul_right (c := 5 ^ k) _ p5
    rw [h25, hk2]
    exact Nat.mul_le_mul_left _ hge
  have l2 : 10 ^ (d - 1) ≤ 2 ^ k := by
    apply Nat.le_of_mul_le_mul_right (c := 5 ^ k) _ p5
    rw [h25, hk1]
    exact Nat.mul_le_mul_left _ (Nat.le_of_lt hlt)
  by_cases hp : pl (decDigits N) s = true
  · rw [if_pos hp]
    have hc := hlaw.1 hp
    -- N * 2^k < 10^(nDigits N + d - 1)
    have hub : N * 2 ^ k < 10 ^ (nDigits N + (d - 1)) := by
      have e : N * 2 ^ k * (5 ^ k * 10 ^ s.length) < 10 ^ (nDigits N + (d - 1)) * (5 ^ k * 10 ^ s.length) := by
        have e1 : N * 2 ^ k * (5 ^ k * 10 ^ s.length) = (N * 10 ^ s.length) * 10 ^ k := by
          rw [← h25]; simp only [Nat.mul_assoc, Nat.mul_comm, Nat.mul_left_comm]
        have e2 : 10 ^ (nDigits N + (d - 1)) * (5 ^ k * 10 ^ s.length) = (5 ^ k * 10 ^ nDigits N) * 10 ^ k := by
          rw [hk1, Nat.pow_add]; simp only [Nat.mul_assoc, Nat.mul_comm, Nat.mul_left_comm]
        rw [e1, e2]
        exact Nat.mul_lt_mul_of_pos_right hc (Nat.pow_pos (by decide))
      exact Nat.lt_of_mul_lt_mul_right e
    have hlb : 10 ^ (nDigits N + (d - 1) - 1) ≤ N * 2 ^ k := by
      rw [show nDigits N + (d - 1) - 1 = (nDigits N - 1) + (d - 1) by omega, Nat.pow_add]
      exact Nat.mul_le_mul hn1 l2
    rw [nDigits_of (nDigits N + (d - 1)) (N * 2 ^ k) (by omega) hlb hub]
    omega
  · rw [if_neg hp]
    have hc : ¬ (N * 10 ^ s.length < 5 ^ k * 10 ^ nDigits N) := fun h => hp (hlaw.2 h)
    have hc' : 5 ^ k * 10 ^ nDigits N ≤ N * 10 ^ s.length := by omega
    have hub : N * 2 ^ k < 10 ^ (nDigits N + d) := by
      rw [Nat.pow_add]
      exact Nat.lt_of_lt_of_le (Nat.mul_lt_mul_of_pos_right hn2 p2) (Nat.mul_le_mul_left _ u2)
    have hlb : 10 ^ (nDigits N + d - 1) ≤ N * 2 ^ k := by
      have e : 10 ^ (nDigits N + d - 1) * (5 ^ k * 10 ^ s.length) ≤ N * 2 ^ k * (5 ^ k * 10 ^ s.length) := by
        have e1 : N * 2 ^ k * (5 ^ k * 10 ^ s.length) = (N * 10 ^ s.length) * 10 ^ k := by
          rw [← h25]; simp only [Nat.mul_assoc, Nat.mul_comm, Nat.mul_left_comm]
        have e2 : 10 ^ (nDigits N + d - 1) * (5 ^ k * 10 ^ s.length) = (5 ^ k * 10 ^ nDigits N) * 10 ^ k := by
          rw [hk1, show nDigits N + d - 1 = nDigits N + (d - 1) by omega, Nat.pow_add]; simp only [Nat.mul_assoc, Nat.mul_comm, Nat.mul_left_comm]
        rw [e1, e2]
        exact Nat.mul_le_mul_right _ hc'
      exact Nat.le_of_mul_le_mul_right e (Nat.mul_pos p5 (Nat.pow_pos (by decide)))
    rw [nDigits_of (nDigits N + d) (N * 2 ^ k) (by omega) hlb hub]
    omega

/-- The carry behind i digits. -/
def carry (N k i : Nat) : Nat := (N % 10 ^ i) * 2 ^ k / 10 ^ i

theorem carry_zero (N k : Nat) : carry N k 0 = 0 := by simp [carry, Nat.mod_one]

theorem carry_lt (N k i : Nat) : carry N k i < 2 ^ k := by
  unfold carry
  rw [Nat.div_lt_iff_lt_mul (Nat.pow_pos (by decide)), Nat.mul_comm]
  exact Nat.mul_lt_mul_of_pos_left (Nat.mod_lt _ (Nat.pow_pos (by decide))) (Nat.pow_pos (by decide))

theorem mod_step (N i : Nat) : N % 10 ^ (i + 1) = N / 10 ^ i % 10 * 10 ^ i + N % 10 ^ i := by
  rw [Nat.pow_succ, Nat.mod_mul, Nat.mul_comm, Nat.add_comm]

theorem carry_sum (N k i : Nat) : carry N k i + N / 10 ^ i % 10 * 2 ^ k = N % 10 ^ (i + 1) * 2 ^ k / 10 ^ i := by
  rw [mod_step, Nat.add_mul]
  have e : N / 10 ^ i % 10 * 10 ^ i * 2 ^ k = 10 ^ i * (N / 10 ^ i % 10 * 2 ^ k) := by simp only [Nat.mul_comm, Nat.mul_left_comm]
  rw [e, Nat.mul_add_div (Nat.pow_pos (by decide))]
  unfold carry
  omega

theorem carry_next (N k i : Nat) : (carry N k i + N / 10 ^ i % 10 * 2 ^ k) / 10 = carry N k (i + 1) := by
  rw [carry_sum, Nat.div_div_eq_div_mul, ← Nat.pow_succ]
  rfl

theorem carry_digit (N k i : Nat) : (carry N k i + N / 10 ^ i % 10 * 2 ^ k) % 10 = N * 2 ^ k / 10 ^ i % 10 := by
  rw [carry_sum]
  have h : N * 2 ^ k = N % 10 ^ (i + 1) * 2 ^ k + 10 ^ i * (10 * (N / 10 ^ (i + 1) * 2 ^ k)) := by
    have h0 := Nat.mod_add_div N (10 ^ (i + 1))
    have e : 10 ^ i * (10 * (N / 10 ^ (i + 1) * 2 ^ k)) = 10 ^ (i + 1) * (N / 10 ^ (i + 1)) * 2 ^ k := by
      rw [Nat.pow_succ]; simp only [Nat.mul_assoc, Nat.mul_comm, Nat.mul_left_comm]
    rw [e, ← Nat.add_mul, h0]
  rw [h, Nat.add_mul_div_left _ _ (Nat.pow_pos (by decide))]
  omega

theorem carry_end (N k i : Nat) (h : N < 10 ^ i) : carry N k i = N * 2 ^ k / 10 ^ i := by
  unfold carry; rw [Nat.mod_eq_of_lt h]

end Go.Proofs.Qxb6614069aDoor
