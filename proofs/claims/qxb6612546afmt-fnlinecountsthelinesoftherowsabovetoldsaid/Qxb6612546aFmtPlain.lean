import Derived.Test.Qxb6612546aFmtBase
namespace Go.Proofs.Qxb6612546aFmt.Cs

/-- zzNormalize: a carriage return before a line feed is dropped, and one that ends the text. -/
def norm : List UInt8 → List UInt8
  | [] => []
  | [c] => if c = 13 then [] else [c]
  | c :: d :: r => if c = 13 ∧ d = 10 then norm (d :: r) else c :: norm (d :: r)

/-- A line through its line feed, and what follows. -/
def cutLine : List UInt8 → List UInt8 × List UInt8
  | [] => ([], [])
  | c :: r => if c = 10 then ([10], r) else (c :: (cutLine r).1, (cutLine r).2)

theorem cut_append : ∀ l, (cutLine l).1 ++ (cutLine l).2 = l
  | [] => rfl
  | c :: r => by
    rw [cutLine]
    split
    · rename_i h; simp [h]
    · simp [cut_append r]

theorem norm_one (d : UInt8) (r : List UInt8) (h : d ≠ 13) : norm (d :: r) = d :: norm r := by
  cases r with
  | nil => simp [norm, h]
  | cons e r => rw [norm, if_neg (fun hh => h hh.1)]

/-- By lines: the normalised text is the normalised line ahead of the normalised rest. -/
theorem norm_cut : ∀ l, norm l = norm (cutLine l).1 ++ norm (cutLine l).2 := by
  intro l
  induction l with
  | nil => rfl
  | cons c r ih =>
    rw [cutLine]
    by_cases hc : c = 10
    · rw [if_pos hc]
      subst hc
      rw [norm_one 10 r (by decide)]
      simp [norm]
    · rw [if_neg hc]
      simp only
      cases r with
      | nil =>
        simp only [cutLine]
        simp [norm]
      | cons d r =>
        by_cases hcd : c = 13 ∧ d = 10
        · obtain ⟨rfl, rfl⟩ := hcd
          have h1 : (cutLine (10 :: r)) = ([10], r) := by rw [cutLine, if_pos rfl]
          rw [norm, if_pos ⟨rfl, rfl⟩, h1]
          simp only
          rw [norm_one 10 r (by decide)]
          simp [norm]
        · rw [norm, if_neg hcd, ih]
          have h1 : ∃ t, (cutLine (d :: r)).1 = d :: t := by
            rw [cutLine]
            split
            · rename_i h; exact ⟨[], by rw [h]⟩
            · exact ⟨_, rfl⟩
          obtain ⟨t, ht⟩ := h1
          rw [ht]
          conv => rhs; rw [norm, if_neg hcd]
          rfl

/-- The line feeds in a text. -/
def lfs (l : List UInt8) : Nat := l.count 10

/-- The reader of a file, a byte at a time. m: 0 a field starts, 1 inside a bare field, 2 inside a quoted one, 3 behind a quote inside a quoted one, 4 between two records.
acc: the field so far; fs: the record's fields so far; st: the line on which it starts; ln: this line. -/
def mach : Nat → List UInt8 → List (List UInt8) → Nat → Nat → List UInt8 → List (List (List UInt8) × Nat) × Bool
  | m, acc, fs, st, _, [] => if m = 4 then ([], false) else if m = 2 then ([], true) else ([(fs ++ [acc], st)], false)
  | m, acc, fs, st, ln, c :: r =>
    if m = 4 then
      (if c = 10 then mach 4 [] [] 0 (ln + 1) r
       else if c = 34 then mach 2 [] [] ln ln r
       else if c = 44 then mach 0 [] [[]] ln ln r
       else mach 1 [c] [] ln ln r)
    else if m = 2 then
      (if c = 34 then mach 3 acc fs st ln r else mach 2 (acc ++ [c]) fs st (if c = 10 then ln + 1 else ln) r)
    else if c = 34 then (if m = 0 then mach 2 [] fs st ln r else if m = 3 then mach 2 (acc ++ [34]) fs st ln r else ([], true))
    else if c = 44 then mach 0 [] (fs ++ [acc]) st ln r
    else if c = 10 then ((fs ++ [acc], st) :: (mach 4 [] [] 0 (ln + 1) r).1, (mach 4 [] [] 0 (ln + 1) r).2)
    else if m = 3 then ([], true)
    else mach 1 (acc ++ [c]) fs st ln r

theorem mach4_nil (acc : List UInt8) (fs : List (List UInt8)) (st ln : Nat) : mach 4 acc fs st ln [] = ([], false) := by simp [mach]

theorem mach4_lf (acc : List UInt8) (fs : List (List UInt8)) (st ln : Nat) (r : List UInt8) : mach 4 acc fs st ln (10 :: r) = mach 4 [] [] 0 (ln + 1) r := by simp [mach]

theorem mach4_go (acc : List UInt8) (fs : List (List UInt8)) (st ln : Nat) (c : UInt8) (r : List UInt8) (h : c ≠ 10) : mach 4 acc fs st ln (c :: r) = mach 0 [] [] ln ln (c :: r) := by
  simp [mach, h]

theorem mach0_quote (acc : List UInt8) (fs : List (List UInt8)) (st ln : Nat) (r : List UInt8) : mach 0 acc fs st ln (34 :: r) = mach 2 [] fs st ln r := by simp [mach]

theorem mach0_bare (fs : List (List UInt8)) (st ln : Nat) (l : List UInt8) (h : l.head? ≠ some 34) : mach 0 [] fs st ln l = mach 1 [] fs st ln l := by
  cases l with
  | nil => simp [mach]
  | cons c r => simp at h; simp [mach, h]

theorem mach1_nil (acc : List UInt8) (fs : List (List UInt8)) (st ln : Nat) : mach 1 acc fs st ln [] = ([(fs ++ [acc], st)], false) := by simp [mach]

theorem mach1_comma (acc : List UInt8) (fs : List (List UInt8)) (st ln : Nat) (r : List UInt8) : mach 1 acc fs st ln (44 :: r) = mach 0 [] (fs ++ [acc]) st ln r := by simp [mach]

theorem mach1_lf (acc : List UInt8) (fs : List (List UInt8)) (st ln : Nat) (r : List UInt8) : mach 1 acc fs st ln (10 :: r) = ((fs ++ [acc], st) :: (mach 4 [] [] 0 (ln + 1) r).1, (mach 4 [] [] 0 (ln + 1) r).2) := by simp [mach]

theorem mach1_quote (acc : List UInt8) (fs : List (List UInt8)) (st ln : Nat) (r : List UInt8) : mach 1 acc fs st ln (34 :: r) = ([], true) := by simp [mach]

theorem mach1_byte (acc : List UInt8) (fs : List (List UInt8)) (st ln : Nat) (c : UInt8) (r : List UInt8) (h : c ≠ 44) (h1 : c ≠ 10) (h2 : c ≠ 34) : mach 1 acc fs st ln (c :: r) = mach 1 (acc ++ [c]) fs st ln r := by simp [mach, h, h1, h2]

theorem mach2_nil (acc : List UInt8) (fs : List (List UInt8)) (st ln : Nat) : mach 2 acc fs st ln [] = ([], true) := by simp [mach]

theorem mach2_quote (acc : List UInt8) (fs : List (List UInt8)) (st ln : Nat) (r : List UInt8) : mach 2 acc fs st ln (34 :: r) = mach 3 acc fs st ln r := by simp [mach]

theorem mach2_byte (acc : List UInt8) (fs : List (List UInt8)) (st ln : Nat) (c : UInt8) (r : List UInt8) (h : c ≠ 34) : mach 2 acc fs st ln (c :: r) = mach 2 (acc ++ [c]) fs st (if c = 10 then ln + 1 else ln) r := by simp [mach, h]

theorem mach3_nil (acc : List UInt8) (fs : List (List UInt8)) (st ln : Nat) : mach 3 acc fs st ln [] = ([(fs ++ [acc], st)], false) := by simp [mach]

theorem mach3_quote (acc : List UInt8) (fs : List (List UInt8)) (st ln : Nat) (r : List UInt8) : mach 3 acc fs st ln (34 :: r) = mach 2 (acc ++ [34]) fs st ln r := by simp [mach]

theorem mach3_comma (acc : List UInt8) (fs : List (List UInt8)) (st ln : Nat) (r : List UInt8) : mach 3 acc fs st ln (44 :: r) = mach 0 [] (fs ++ [acc]) st ln r := by simp [mach]

theorem mach3_lf (acc : List UInt8) (fs : List (List UInt8)) (st ln : Nat) (r : List UInt8) : mach 3 acc fs st ln (10 :: r) = ((fs ++ [acc], st) :: (mach 4 [] [] 0 (ln + 1) r).1, (mach 4 [] [] 0 (ln + 1) r).2) := by simp [mach]

theorem mach3_byte (acc : List UInt8) (fs : List (List UInt8)) (st ln : Nat) (c : UInt8) (r : List UInt8) (h : c ≠ 44) (h1 : c ≠ 10) (h2 : c ≠ 34) : mach 3 acc fs st ln (c :: r) = ([], true) := by simp [mach, h, h1, h2]

/-- A run of plain bytes of a bare field. -/
theorem mach1_run : ∀ (l acc : List UInt8) (fs : List (List UInt8)) (st ln : Nat) (r : List UInt8), (∀ c ∈ l, c ≠ 44 ∧ c ≠ 10 ∧ c ≠ 34) → mach 1 acc fs st ln (l ++ r) = mach 1 (acc ++ l) fs st ln r := by
  intro l
  induction l with
  | nil => intro acc fs st ln r _; simp
  | cons c l ih =>
    intro acc fs st ln r h
    obtain ⟨h1, h2, h3⟩ := h c (by simp)
    rw [List.cons_append, mach1_byte _ _ _ _ _ _ h1 h2 h3, ih _ _ _ _ _ (fun d hd => h d (by simp [hd]))]
    simp

/-- A quote in a bare field. -/
theorem mach1_bad : ∀ (l acc : List UInt8) (fs : List (List UInt8)) (st ln : Nat) (r : List UInt8), (∀ c ∈ l, c ≠ 44 ∧ c ≠ 10) → 34 ∈ l → mach 1 acc fs st ln (l ++ r) = ([], true) := by
  intro l
  induction l with
  | nil => intro acc fs st ln r _ h; simp at h
  | cons c l ih =>
    intro acc fs st ln r h hq
    obtain ⟨h1, h2⟩ := h c (by simp)
    by_cases hc : c = 34
    · subst hc; rw [List.cons_append, mach1_quote]
    · rw [List.cons_append, mach1_byte _ _ _ _ _ _ h1 h2 hc]
      refine ih _ _ _ _ _ (fun d hd => h d (by simp [hd])) ?_
      simp at hq
      rcases hq with e | e
      · exact absurd e.symm hc
      · exact e

theorem lfs_cons (c : UInt8) (l : List UInt8) : lfs (c :: l) = (if c = 10 then 1 else 0) + lfs l := by
  unfold lfs
  rw [List.count_cons]
  by_cases h : c = 10 <;> simp [h]; omega

theorem lfs_append (a b : List UInt8) : lfs (a ++ b) = lfs a + lfs b := by simp [lfs]

/-- A run without quotes inside a quoted field. -/
theorem mach2_run : ∀ (l acc : List UInt8) (fs : List (List UInt8)) (st ln : Nat) (r : List UInt8), (∀ c ∈ l, c ≠ 34) → mach 2 acc fs st ln (l ++ r) = mach 2 (acc ++ l) fs st (ln + lfs l) r := by
  intro l
  induction l with
  | nil => intro acc fs st ln r _; simp [lfs]
  | cons c l ih =>
    intro acc fs st ln r h
    rw [List.cons_append, mach2_byte _ _ _ _ _ _ (h c (by simp)), ih _ _ _ _ _ (fun d hd => h d (by simp [hd])), lfs_cons]
    by_cases hc : c = 10 <;> simp [hc, Nat.add_assoc]
end Go.Proofs.Qxb6612546aFmt.Cs
