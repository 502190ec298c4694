import Derived.Lib.SpaceUEq
namespace Go.Proofs.Qxb6609067aFmt
open Go.Lib

def ascS (a : UInt8) : Bool := a == 32 || a == 9 || a == 10 || a == 11 || a == 12 || a == 13
def two (a b : UInt8) : Bool := a == 194 && (b == 133 || b == 160)
def three (a b c : UInt8) : Bool := (a == 225 && b == 154 && c == 128) || (a == 226 && b == 128 && ((128 ≤ c && c ≤ 138) || c == 168 || c == 169 || c == 175)) || (a == 226 && b == 129 && c == 159) || (a == 227 && b == 128 && c == 128)

/-- The white space at the head, by tests. -/
def hsF : List UInt8 → Nat
  | [] => 0
  | [a] => if ascS a then 1 else 0
  | [a, b] => if ascS a then 1 else if two a b then 2 else 0
  | a :: b :: c :: _ => if ascS a then 1 else if two a b then 2 else if three a b c then 3 else 0

/-- The white space at the end, by tests; the list is reversed. -/
def tsF : List UInt8 → Nat
  | [] => 0
  | [c] => if ascS c then 1 else 0
  | [c, b] => if ascS c then 1 else if two b c then 2 else 0
  | c :: b :: a :: _ => if ascS c then 1 else if two b c then 2 else if three a b c then 3 else 0

theorem hsF_one (a : UInt8) (r : List UInt8) (h : ascS a = true) : hsF (a :: r) = 1 := by
  match r with
  | [] => simp [hsF, h]
  | [_] => simp [hsF, h]
  | _ :: _ :: _ => simp [hsF, h]

theorem hsF_two (a b : UInt8) (r : List UInt8) (h0 : ascS a = false) (h : two a b = true) : hsF (a :: b :: r) = 2 := by
  match r with
  | [] => simp [hsF, h, h0]
  | _ :: _ => simp [hsF, h, h0]

theorem hsF_three (a b c : UInt8) (r : List UInt8) (h0 : ascS a = false) (h1 : two a b = false) (h : three a b c = true) : hsF (a :: b :: c :: r) = 3 := by
  simp [hsF, h, h0, h1]

theorem tsF_one (a : UInt8) (r : List UInt8) (h : ascS a = true) : tsF (a :: r) = 1 := by
  match r with
  | [] => simp [tsF, h]
  | [_] => simp [tsF, h]
  | _ :: _ :: _ => simp [tsF, h]

theorem tsF_two (a b : UInt8) (r : List UInt8) (h0 : ascS b = false) (h : two a b = true) : tsF (b :: a :: r) = 2 := by
  match r with
  | [] => simp [tsF, h, h0]
  | _ :: _ => simp [tsF, h, h0]

theorem tsF_three (a b c : UInt8) (r : List UInt8) (h0 : ascS c = false) (h1 : two b c = false) (h : three a b c = true) : tsF (c :: b :: a :: r) = 3 := by
  simp [tsF, h, h0, h1]

/-- The sequences, by their tests. -/
theorem seq_cases (x : List UInt8) (h : x ∈ spaceSeqs) : (∃ a, x = [a] ∧ ascS a = true) ∨ (∃ a b, x = [a, b] ∧ ascS a = false ∧ ascS b = false ∧ two a b = true) ∨ (∃ a b c, x = [a, b, c] ∧ ascS a = false ∧ ascS c = false ∧ two a b = false ∧ two b c = false ∧ three a b c = true) := by
  simp only [spaceSeqs, List.mem_cons, List.not_mem_nil, or_false] at h
  rcases h with h | h | h | h | h | h | h | h | h | h | h | h | h | h | h | h | h | h | h | h | h | h | h | h | h
  all_goals subst h
  all_goals first
    | exact .inl ⟨_, rfl, by decide⟩
    | exact .inr (.inl ⟨_, _, rfl, by decide, by decide, by decide⟩)
    | exact .inr (.inr ⟨_, _, _, rfl, by decide, by decide, by decide, by decide, by decide⟩)

theorem one_seq (a : UInt8) (h : ascS a = true) : [a] ∈ spaceSeqs := by
  simp only [ascS, Bool.or_eq_true, beq_iff_eq] at h
  rcases h with ((((h | h) | h) | h) | h) | h <;> subst h <;> decide

theorem two_seq (a b : UInt8) (h : two a b = true) : [a, b] ∈ spaceSeqs := by
  simp only [two, Bool.and_eq_true, Bool.or_eq_true, beq_iff_eq] at h
  obtain ⟨rfl, h | h⟩ := h <;> subst h <;> decide

theorem range_byte (c : UInt8) (h1 : 128 ≤ c) (h2 : c ≤ 138) : [226, 128, c] ∈ spaceSeqs := by
  have h1' : 128 ≤ c.toNat := h1
  have h2' : c.toNat ≤ 138 := h2
  have : c = UInt8.ofNat c.toNat := by simp
  generalize c.toNat = n at *
  subst this
  have : n = 128 ∨ n = 129 ∨ n = 130 ∨ n = 131 ∨ n = 132 ∨ n = 133 ∨ n = 134 ∨ n = 135 ∨ n = 136 ∨ n = 137 ∨ n = 138 := by omega
  rcases this with h | h | h | h | h | h | h | h | h | h | h <;> subst h <;> decide

theorem three_seq (a b c : UInt8) (h : three a b c = true) : [a, b, c] ∈ spaceSeqs := by
  simp only [three, Bool.and_eq_true, Bool.or_eq_true, beq_iff_eq, decide_eq_true_eq] at h
  rcases h with ((⟨⟨rfl, rfl⟩, rfl⟩ | ⟨⟨rfl, rfl⟩, h⟩) | ⟨⟨rfl, rfl⟩, rfl⟩) | ⟨⟨rfl, rfl⟩, rfl⟩
  · decide
  · rcases h with ((⟨h1, h2⟩ | rfl) | rfl) | rfl
    · exact range_byte c h1 h2
    · decide
    · decide
    · decide
  · decide
  · decide

theorem headSpace_eq (l : List UInt8) : headSpace l = hsF l := by
  unfold headSpace
  cases hf : spaceSeqs.find? (·.isPrefixOf l) with
  | some x =>
    have hx := List.mem_of_find?_eq_some hf
    have hp := List.find?_some hf
    obtain ⟨r, rfl⟩ := List.isPrefixOf_iff_prefix.1 hp
    rcases seq_cases x hx with ⟨a, rfl, h⟩ | ⟨a, b, rfl, h0, _, h⟩ | ⟨a, b, c, rfl, h0, _, h1, _, h⟩
    · exact (hsF_one a r h).symm
    · exact (hsF_two a b r h0 h).symm
    · exact (hsF_three a b c r h0 h1 h).symm
  | none =>
    rw [List.find?_eq_none] at hf
    have no : ∀ x ∈ spaceSeqs, ∀ r, l ≠ x ++ r := by
      intro x hx r e
      have := hf x hx
      apply this
      simp only [e]
      exact List.isPrefixOf_iff_prefix.2 ⟨r, rfl⟩
    show 0 = hsF l
    match l with
    | [] => rfl
    | [a] =>
      have h : ascS a = false := Bool.eq_false_iff.2 fun h => no _ (one_seq a h) [] rfl
      simp [hsF, h]
    | [a, b] =>
      have h : ascS a = false := Bool.eq_false_iff.2 fun h => no _ (one_seq a h) [b] rfl
      have h2 : two a b = false := Bool.eq_false_iff.2 fun h => no _ (two_seq a b h) [] rfl
      simp [hsF, h, h2]
    | a :: b :: c :: r =>
      have h : ascS a = false := Bool.eq_false_iff.2 fun h => no _ (one_seq a h) (b :: c :: r) rfl
      have h2 : two a b = false := Bool.eq_false_iff.2 fun h => no _ (two_seq a b h) (c :: r) rfl
      have h3 : three a b c = false := Bool.eq_false_iff.2 fun h => no _ (three_seq a b c h) r rfl
      simp [hsF, h, h2, h3]

theorem tailSpace_eq (l : List UInt8) : tailSpace l = tsF l.reverse := by
  unfold tailSpace
  cases hf : spaceSeqs.find? (·.isSuffixOf l) with
  | some x =>
    have hx := List.mem_of_find?_eq_some hf
    have hp := List.find?_some hf
    obtain ⟨r, rfl⟩ := List.isSuffixOf_iff_suffix.1 hp
    rcases seq_cases x hx with ⟨a, rfl, h⟩ | ⟨a, b, rfl, _, h0, h⟩ | ⟨a, b, c, rfl, _, h0, _, h1, h⟩
    · rw [List.reverse_append]; exact (tsF_one a _ h).symm
    · rw [List.reverse_append]; exact (tsF_two a b _ h0 h).symm
    · rw [List.reverse_append]; exact (tsF_three a b c _ h0 h1 h).symm
  | none =>
    rw [List.find?_eq_none] at hf
    have no : ∀ x ∈ spaceSeqs, ∀ r, l.reverse ≠ x.reverse ++ r := by
      intro x hx r e
      have := hf x hx
      apply this
      have e2 : l = r.reverse ++ x := by
        have := congrArg List.reverse e
        simpa using this
      simp only [e2]
      exact List.isSuffixOf_iff_suffix.2 ⟨_, rfl⟩
    show 0 = tsF l.reverse
    generalize l.reverse = m at *
    match m with
    | [] => rfl
    | [a] =>
      have h : ascS a = false := Bool.eq_false_iff.2 fun h => no _ (one_seq a h) [] rfl
      simp [tsF, h]
    | [b, a] =>
      have h : ascS b = false := Bool.eq_false_iff.2 fun h => no _ (one_seq b h) [a] rfl
      have h2 : two a b = false := Bool.eq_false_iff.2 fun h => no _ (two_seq a b h) [] rfl
      simp [tsF, h, h2]
    | c :: b :: a :: r =>
      have h : ascS c = false := Bool.eq_false_iff.2 fun h => no _ (one_seq c h) (b :: a :: r) rfl
      have h2 : two b c = false := Bool.eq_false_iff.2 fun h => no _ (two_seq b c h) (a :: r) rfl
      have h3 : three a b c = false := Bool.eq_false_iff.2 fun h => no _ (three_seq a b c h) r rfl
      simp [tsF, h, h2, h3]


/-- The tests in numbers. -/
def ascZ (a : Int) : Prop := a = 32 ∨ a = 9 ∨ a = 10 ∨ a = 11 ∨ a = 12 ∨ a = 13
def twoZ (a b : Int) : Prop := a = 194 ∧ (b = 133 ∨ b = 160)
def threeZ (a b c : Int) : Prop := (a = 225 ∧ b = 154 ∧ c = 128) ∨ (a = 226 ∧ b = 128 ∧ ((128 ≤ c ∧ c ≤ 138) ∨ c = 168 ∨ c = 169 ∨ c = 175)) ∨ (a = 226 ∧ b = 129 ∧ c = 159) ∨ (a = 227 ∧ b = 128 ∧ c = 128)

theorem u8_eq (a : UInt8) (n : Nat) (h : n < 256) : a = UInt8.ofNat n ↔ (a.toNat : Int) = (n : Int) := by
  rw [← UInt8.toNat_inj, UInt8.toNat_ofNat']
  omega

theorem asc_iff (a : UInt8) : ascS a = true ↔ ascZ a.toNat := by
  have e1 := u8_eq a 32 (by decide)
  have e2 := u8_eq a 9 (by decide)
  have e3 := u8_eq a 10 (by decide)
  have e4 := u8_eq a 11 (by decide)
  have e5 := u8_eq a 12 (by decide)
  have e6 := u8_eq a 13 (by decide)
  simp only [ascS, ascZ, Bool.or_eq_true, beq_iff_eq, or_assoc]
  exact or_congr e1 (or_congr e2 (or_congr e3 (or_congr e4 (or_congr e5 e6))))

theorem two_iff (a b : UInt8) : two a b = true ↔ twoZ a.toNat b.toNat := by
  simp only [two, twoZ, Bool.and_eq_true, Bool.or_eq_true, beq_iff_eq]
  exact and_congr (u8_eq a 194 (by decide)) (or_congr (u8_eq b 133 (by decide)) (u8_eq b 160 (by decide)))

theorem three_iff (a b c : UInt8) : three a b c = true ↔ threeZ a.toNat b.toNat c.toNat := by
  have h1 : 128 ≤ c ↔ (128 : Int) ≤ c.toNat := by rw [UInt8.le_iff_toNat_le]; show 128 ≤ c.toNat ↔ _; omega
  have h2 : c ≤ 138 ↔ (c.toNat : Int) ≤ 138 := by rw [UInt8.le_iff_toNat_le]; show c.toNat ≤ 138 ↔ _; omega
  simp only [three, threeZ, Bool.and_eq_true, Bool.or_eq_true, beq_iff_eq, decide_eq_true_eq, or_assoc, and_assoc]
  exact or_congr (and_congr (u8_eq a 225 (by decide)) (and_congr (u8_eq b 154 (by decide)) (u8_eq c 128 (by decide))))
    (or_congr (and_congr (u8_eq a 226 (by decide)) (and_congr (u8_eq b 128 (by decide)) (or_congr (and_congr h1 h2) (or_congr (u8_eq c 168 (by decide)) (or_congr (u8_eq c 169 (by decide)) (u8_eq c 175 (by decide)))))))
    (or_congr (and_congr (u8_eq a 226 (by decide)) (and_congr (u8_eq b 129 (by decide)) (u8_eq c 159 (by decide)))) (and_congr (u8_eq a 227 (by decide)) (and_congr (u8_eq b 128 (by decide)) (u8_eq c 128 (by decide))))))

/-- The value by the tests, three bytes at hand. -/
theorem hs3 (a b c : UInt8) (r : List UInt8) : (ascZ a.toNat → hsF (a :: b :: c :: r) = 1) ∧ (¬ ascZ a.toNat → twoZ a.toNat b.toNat → hsF (a :: b :: c :: r) = 2) ∧
    (¬ ascZ a.toNat → ¬ twoZ a.toNat b.toNat → threeZ a.toNat b.toNat c.toNat → hsF (a :: b :: c :: r) = 3) ∧ (¬ ascZ a.toNat → ¬ twoZ a.toNat b.toNat → ¬ threeZ a.toNat b.toNat c.toNat → hsF (a :: b :: c :: r) = 0) := by
  rw [← asc_iff, ← two_iff, ← three_iff]
  refine ⟨fun h => by simp [hsF, h], fun h h2 => by simp [hsF, h, h2], fun h h2 h3 => by simp [hsF, h, h2, h3], fun h h2 h3 => by simp [hsF, h, h2, h3]⟩

theorem hs2 (a b : UInt8) : (ascZ a.toNat → hsF [a, b] = 1) ∧ (¬ ascZ a.toNat → twoZ a.toNat b.toNat → hsF [a, b] = 2) ∧ (¬ ascZ a.toNat → ¬ twoZ a.toNat b.toNat → hsF [a, b] = 0) := by
  rw [← asc_iff, ← two_iff]
  refine ⟨fun h => by simp [hsF, h], fun h h2 => by simp [hsF, h, h2], fun h h2 => by simp [hsF, h, h2]⟩

theorem hs1 (a : UInt8) : (ascZ a.toNat → hsF [a] = 1) ∧ (¬ ascZ a.toNat → hsF [a] = 0) := by
  rw [← asc_iff]
  refine ⟨fun h => by simp [hsF, h], fun h => by simp [hsF, h]⟩

theorem ts3 (c b a : UInt8) (r : List UInt8) : (ascZ c.toNat → tsF (c :: b :: a :: r) = 1) ∧ (¬ ascZ c.toNat → twoZ b.toNat c.toNat → tsF (c :: b :: a :: r) = 2) ∧
    (¬ ascZ c.toNat → ¬ twoZ b.toNat c.toNat → threeZ a.toNat b.toNat c.toNat → tsF (c :: b :: a :: r) = 3) ∧ (¬ ascZ c.toNat → ¬ twoZ b.toNat c.toNat → ¬ threeZ a.toNat b.toNat c.toNat → tsF (c :: b :: a :: r) = 0) := by
  rw [← asc_iff, ← two_iff, ← three_iff]
  refine ⟨fun h => by simp [tsF, h], fun h h2 => by simp [tsF, h, h2], fun h h2 h3 => by simp [tsF, h, h2, h3], fun h h2 h3 => by simp [tsF, h, h2, h3]⟩

theorem ts2 (c b : UInt8) : (ascZ c.toNat → tsF [c, b] = 1) ∧ (¬ ascZ c.toNat → twoZ b.toNat c.toNat → tsF [c, b] = 2) ∧ (¬ ascZ c.toNat → ¬ twoZ b.toNat c.toNat → tsF [c, b] = 0) := by
  rw [← asc_iff, ← two_iff]
  refine ⟨fun h => by simp [tsF, h], fun h h2 => by simp [tsF, h, h2], fun h h2 => by simp [tsF, h, h2]⟩

theorem ts1 (c : UInt8) : (ascZ c.toNat → tsF [c] = 1) ∧ (¬ ascZ c.toNat → tsF [c] = 0) := by
  rw [← asc_iff]
  refine ⟨fun h => by simp [tsF, h], fun h => by simp [tsF, h]⟩

end Go.Proofs.Qxb6609067aFmt
