namespace Go.Proofs.Qxb6609067aFmt
namespace Pl

/-- The bytes ahead of the first blank. -/
def fw : List UInt8 → Nat
  | [] => 0
  | c :: r => if c = 32 ∨ c = 9 then 0 else fw r + 1

/-- The bytes through the closing single quote. -/
def sq : List UInt8 → Option Nat
  | [] => none
  | c :: r => if c = 39 then some 1 else (sq r).map (· + 1)

/-- The bytes through the closing double quote; esc: behind a backslash. -/
def dq : Bool → List UInt8 → Option Nat
  | _, [] => none
  | esc, c :: r => if esc then (dq false r).map (· + 1) else if c = 92 then (dq true r).map (· + 1) else if c = 34 then some 1 else (dq false r).map (· + 1)

/-- The bytes through the brace that closes depth d. -/
def br : Bool → Nat → List UInt8 → Option Nat
  | _, _, [] => none
  | esc, d, [c] => if esc = false ∧ c = 125 ∧ d = 1 then some 1 else none
  | esc, d, c :: c2 :: r =>
    if esc then (br false d (c2 :: r)).map (· + 1)
    else if c = 92 then (br true d (c2 :: r)).map (· + 1)
    else if c = 36 ∧ c2 = 123 then (br false (d + 1) r).map (· + 2)
    else if c = 125 then (if d = 1 then some 1 else (br false (d - 1) (c2 :: r)).map (· + 1))
    else (br false d (c2 :: r)).map (· + 1)

/-- The length of the unit at the head. -/
def unitLen : List UInt8 → Option Nat
  | [] => some 1
  | c :: r =>
    if c = 92 ∧ r ≠ [] then some 2
    else if c = 39 then (sq r).map (· + 1)
    else if c = 34 then (dq false r).map (· + 1)
    else if c = 36 ∧ r.head? = some 123 then (br false 1 r.tail).map (· + 2)
    else some 1

theorem br_nil (esc : Bool) (d : Nat) : br esc d [] = none := by unfold br; rfl

theorem br_esc (d : Nat) (c : UInt8) (r : List UInt8) : br true d (c :: r) = (br false d r).map (· + 1) := by
  cases r with
  | nil => simp [br]
  | cons c2 r => rw [br]; simp

theorem br_back (d : Nat) (c : UInt8) (r : List UInt8) (h : c = 92) : br false d (c :: r) = (br true d r).map (· + 1) := by
  subst h
  cases r with
  | nil => simp [br]
  | cons c2 r => rw [br]; simp

theorem br_open (d : Nat) (c c2 : UInt8) (r : List UInt8) (h : c = 36) (h2 : c2 = 123) : br false d (c :: c2 :: r) = (br false (d + 1) r).map (· + 2) := by
  subst h; subst h2
  rw [br]; simp

theorem br_close (d : Nat) (c : UInt8) (r : List UInt8) (h : c = 125) : br false d (c :: r) = if d = 1 then some 1 else (br false (d - 1) r).map (· + 1) := by
  subst h
  cases r with
  | nil => simp [br]
  | cons c2 r => rw [br]; simp

theorem br_else (d : Nat) (c : UInt8) (r : List UInt8) (h1 : c ≠ 92) (h2 : ¬ (c = 36 ∧ r.head? = some 123)) (h3 : c ≠ 125) : br false d (c :: r) = (br false d r).map (· + 1) := by
  cases r with
  | nil => simp [br, h3]
  | cons c2 r =>
    have h2' : ¬ (c = 36 ∧ c2 = 123) := by simpa using h2
    rw [br]; simp [h1, h2', h3]

theorem sq_le (l : List UInt8) : ∀ n, sq l = some n → 1 ≤ n ∧ n ≤ l.length := by
  induction l with
  | nil => intro n h; simp [sq] at h
  | cons c r ih =>
    intro n h
    rw [sq] at h
    split at h
    · simp at h; subst h; simp
    · simp only [Option.map_eq_some_iff] at h
      obtain ⟨m, hm, rfl⟩ := h
      have := ih m hm
      simp; omega

theorem dq_le (l : List UInt8) : ∀ esc n, dq esc l = some n → 1 ≤ n ∧ n ≤ l.length := by
  induction l with
  | nil => intro esc n h; simp [dq] at h
  | cons c r ih =>
    intro esc n h
    have key : ∀ b, (dq b r).map (· + 1) = some n → 1 ≤ n ∧ n ≤ (c :: r).length := by
      intro b hb
      simp only [Option.map_eq_some_iff] at hb
      obtain ⟨m, hm, rfl⟩ := hb
      have := ih b m hm
      simp; omega
    rw [dq] at h
    split at h
    · exact key _ h
    · split at h
      · exact key _ h
      · split at h
        · simp at h; subst h; simp
        · exact key _ h

theorem br_le : ∀ (m : Nat) (l : List UInt8), l.length ≤ m → ∀ esc d n, br esc d l = some n → 1 ≤ n ∧ n ≤ l.length := by
  intro m
  induction m with
  | zero => intro l hl esc d n h; have : l = [] := List.eq_nil_of_length_eq_zero (by omega); subst this; simp [br_nil] at h
  | succ m ih =>
    intro l hl esc d n h
    cases l with
    | nil => simp [br_nil] at h
    | cons c r =>
      have key : ∀ b d', (br b d' r).map (· + 1) = some n → 1 ≤ n ∧ n ≤ (c :: r).length := by
        intro b d' hb
        simp only [Option.map_eq_some_iff] at hb
        obtain ⟨k, hk, rfl⟩ := hb
        have := ih r (by simp at hl; omega) b d' k hk
        simp; omega
      cases esc with
      | true => rw [br_esc] at h; exact key _ _ h
      | false =>
        by_cases h1 : c = 92
        · rw [br_back _ _ _ h1] at h; exact key _ _ h
        · by_cases h2 : c = 36 ∧ r.head? = some 123
          · obtain ⟨h2, h2'⟩ := h2
            cases r with
            | nil => simp at h2'
            | cons c2 r =>
              simp at h2'
              rw [br_open _ _ _ _ h2 h2'] at h
              simp only [Option.map_eq_some_iff] at h
              obtain ⟨k, hk, rfl⟩ := h
              have := ih r (by simp at hl; omega) _ _ k hk
              simp; omega
          · by_cases h3 : c = 125
            · rw [br_close _ _ _ h3] at h
              split at h
              · simp at h; subst h; simp
              · exact key _ _ h
            · rw [br_else _ _ _ h1 h2 h3] at h; exact key _ _ h

theorem unitLen_le (l : List UInt8) (hl : l ≠ []) (n : Nat) (h : unitLen l = some n) : 1 ≤ n ∧ n ≤ l.length := by
  cases l with
  | nil => exact absurd rfl hl
  | cons c r =>
    rw [unitLen] at h
    split at h
    · rename_i h1
      have : r.length ≠ 0 := fun e => h1.2 (List.eq_nil_of_length_eq_zero e)
      simp at h; subst h; simp; omega
    · split at h
      · simp only [Option.map_eq_some_iff] at h
        obtain ⟨m, hm, rfl⟩ := h
        have := sq_le r m hm
        simp; omega
      · split at h
        · simp only [Option.map_eq_some_iff] at h
          obtain ⟨m, hm, rfl⟩ := h
          have := dq_le r _ m hm
          simp; omega
        · split at h
          · rename_i h4
            simp only [Option.map_eq_some_iff] at h
            obtain ⟨m, hm, rfl⟩ := h
            have := br_le _ r.tail (Nat.le_refl _) _ _ m hm
            cases r with
            | nil => simp at h4
            | cons c2 r => simp at this ⊢; omega
          · simp at h; subst h; simp

/-- The end of the unit at i, as Go gives it. -/
def unitEnd (l : List UInt8) (i : Nat) : Int := match unitLen (l.drop i) with | some n => ((i + n : Nat) : Int) | none => -1

/-- The words, cut unit by unit: where each starts, ends, and has its first sign of equality outside quoting (-1: none); is all closed? skip: so many bytes still belong to the unit. -/
def W : Nat → Nat → Int → Int → List UInt8 → List (Int × Int × Int) × Bool
  | _, i, start, eq, [] => (if 0 ≤ start then [(start, (i : Int), eq)] else [], true)
  | skip + 1, i, start, eq, _ :: r => W skip (i + 1) start eq r
  | 0, i, start, eq, c :: r =>
    if c = 32 ∨ c = 9 then
      (if 0 ≤ start then ((start, (i : Int), eq) :: (W 0 (i + 1) (-1) (-1) r).1, (W 0 (i + 1) (-1) (-1) r).2) else W 0 (i + 1) start eq r)
    else match unitLen (c :: r) with
      | none => ([(if start < 0 then (i : Int) else start, ((i + 1 + r.length : Nat) : Int), if c = 61 ∧ eq < 0 then (i : Int) else eq)], false)
      | some n => W (n - 1) (i + 1) (if start < 0 then (i : Int) else start) (if c = 61 ∧ eq < 0 then (i : Int) else eq) r

/-- Where the first sign of equality at a unit's head stands (-1: none). -/
def eqAt : Nat → Nat → List UInt8 → Int
  | _, _, [] => -1
  | skip + 1, i, _ :: r => eqAt skip (i + 1) r
  | 0, i, c :: r => if c = 61 then (i : Int) else match unitLen (c :: r) with
    | none => -1
    | some n => eqAt (n - 1) (i + 1) r

theorem W_skip : ∀ (n i : Nat) (start eq : Int) (l : List UInt8), n ≤ l.length → W n i start eq l = W 0 (i + n) start eq (l.drop n) := by
  intro n
  induction n with
  | zero => intro i start eq l _; simp
  | succ n ih =>
    intro i start eq l h
    cases l with
    | nil => simp at h
    | cons c r =>
      rw [W, ih _ _ _ _ (by simpa using h)]
      simp only [List.drop_succ_cons]
      congr 1
      omega

theorem eqAt_skip : ∀ (n i : Nat) (l : List UInt8), n ≤ l.length → eqAt n i l = eqAt 0 (i + n) (l.drop n) := by
  intro n
  induction n with
  | zero => intro i l _; simp
  | succ n ih =>
    intro i l h
    cases l with
    | nil => simp at h
    | cons c r =>
      rw [eqAt, ih _ _ (by simpa using h)]
      simp only [List.drop_succ_cons]
      congr 1
      omega

theorem W_blank (i : Nat) (start eq : Int) (c : UInt8) (r : List UInt8) (h : c = 32 ∨ c = 9) :
    W 0 i start eq (c :: r) = if 0 ≤ start then ((start, (i : Int), eq) :: (W 0 (i + 1) (-1) (-1) r).1, (W 0 (i + 1) (-1) (-1) r).2) else W 0 (i + 1) start eq r := by
  rw [W, if_pos h]

theorem W_none (i : Nat) (start eq : Int) (c : UInt8) (r : List UInt8) (h : ¬ (c = 32 ∨ c = 9)) (hu : unitLen (c :: r) = none) :
    W 0 i start eq (c :: r) = ([(if start < 0 then (i : Int) else start, ((i + 1 + r.length : Nat) : Int), if c = 61 ∧ eq < 0 then (i : Int) else eq)], false) := by
  rw [W, if_neg h, hu]

theorem W_some (i : Nat) (start eq : Int) (c : UInt8) (r : List UInt8) (n : Nat) (h : ¬ (c = 32 ∨ c = 9)) (hu : unitLen (c :: r) = some n) :
    W 0 i start eq (c :: r) = W (n - 1) (i + 1) (if start < 0 then (i : Int) else start) (if c = 61 ∧ eq < 0 then (i : Int) else eq) r := by
  rw [W, if_neg h, hu]

theorem eqAt_hit (i : Nat) (c : UInt8) (r : List UInt8) (h : c = 61) : eqAt 0 i (c :: r) = i := by rw [eqAt, if_pos h]

theorem eqAt_none (i : Nat) (c : UInt8) (r : List UInt8) (h : c ≠ 61) (hu : unitLen (c :: r) = none) : eqAt 0 i (c :: r) = -1 := by rw [eqAt, if_neg h, hu]

theorem eqAt_some (i : Nat) (c : UInt8) (r : List UInt8) (n : Nat) (h : c ≠ 61) (hu : unitLen (c :: r) = some n) : eqAt 0 i (c :: r) = eqAt (n - 1) (i + 1) r := by rw [eqAt, if_neg h, hu]

theorem eqAt_bounds : ∀ (l : List UInt8) (skip i : Nat), eqAt skip i l = -1 ∨ ((i : Int) ≤ eqAt skip i l ∧ eqAt skip i l < i + l.length) := by
  intro l
  induction l with
  | nil => intro skip i; left; cases skip <;> rfl
  | cons c r ih =>
    intro skip i
    have key : ∀ s, eqAt s (i + 1) r = -1 ∨ ((i : Int) ≤ eqAt s (i + 1) r ∧ eqAt s (i + 1) r < i + (c :: r).length) := by
      intro s
      rcases ih s (i + 1) with h | h
      · exact .inl h
      · right; simp at h ⊢; omega
    cases skip with
    | succ s => rw [eqAt]; exact key s
    | zero =>
      by_cases hc : c = 61
      · rw [eqAt_hit _ _ _ hc]; right; simp; omega
      · cases hu : unitLen (c :: r) with
        | none => rw [eqAt_none _ _ _ hc hu]; exact .inl rfl
        | some n => rw [eqAt_some _ _ _ n hc hu]; exact key _

end Pl
end Go.Proofs.Qxb6609067aFmt
