import Derived.Test.Qxb6612546aFmtPlain
namespace Go.Proofs.Qxb6612546aFmt.Cs

/-- Each quote doubled. -/
def dbl : List UInt8 → List UInt8
  | [] => []
  | c :: r => if c = 34 then 34 :: 34 :: dbl r else c :: dbl r

/-- A field, quoted. -/
def encF (f : List UInt8) : List UInt8 := 34 :: (dbl f ++ [34])

/-- Fields, quoted, a comma between two. -/
def encFs : List (List UInt8) → List UInt8
  | [] => []
  | [f] => encF f
  | f :: g :: r => encF f ++ 44 :: encFs (g :: r)

def encRow (r : List (List UInt8)) : List UInt8 := encFs r ++ [10]

def encRows : List (List (List UInt8)) → List UInt8
  | [] => []
  | r :: rs => encRow r ++ encRows rs

/-- The line feeds inside a row. -/
def nls (r : List (List UInt8)) : Nat := (r.map lfs).sum

/-- The records of written rows, with the lines on which they start. -/
def recs : Nat → List (List (List UInt8)) → List (List (List UInt8) × Nat)
  | _, [] => []
  | ln, [] :: rs => recs (ln + 1) rs
  | ln, (f :: r) :: rs => (f :: r, ln) :: recs (ln + 1 + nls (f :: r)) rs

theorem dbl_cons (c : UInt8) (r : List UInt8) (h : c ≠ 34) : dbl (c :: r) = c :: dbl r := by rw [dbl, if_neg h]
theorem dbl_quote (r : List UInt8) : dbl (34 :: r) = 34 :: 34 :: dbl r := by rw [dbl, if_pos rfl]

theorem mach2_dbl : ∀ (f acc : List UInt8) (fs : List (List UInt8)) (st ln : Nat) (t : List UInt8), mach 2 acc fs st ln (dbl f ++ 34 :: t) = mach 3 (acc ++ f) fs st (ln + lfs f) t := by
  intro f
  induction f with
  | nil => intro acc fs st ln t; rw [dbl, List.nil_append, mach2_quote]; simp [lfs]
  | cons c r ih =>
    intro acc fs st ln t
    by_cases hc : c = 34
    · subst hc
      rw [dbl_quote, List.cons_append, List.cons_append, mach2_quote, mach3_quote, ih, lfs_cons]
      simp
    · rw [dbl_cons c r hc, List.cons_append, mach2_byte _ _ _ _ _ _ hc, ih, lfs_cons]
      by_cases h10 : c = 10 <;> simp [h10, Nat.add_assoc]

theorem nls_cons (f : List UInt8) (r : List (List UInt8)) : nls (f :: r) = lfs f + nls r := by simp [nls]

theorem mach_fields : ∀ (r : List (List UInt8)) (f : List UInt8) (fs : List (List UInt8)) (st ln : Nat) (t : List UInt8),
    mach 0 [] fs st ln (encFs (f :: r) ++ 10 :: t) = ((fs ++ f :: r, st) :: (mach 4 [] [] 0 (ln + nls (f :: r) + 1) t).1, (mach 4 [] [] 0 (ln + nls (f :: r) + 1) t).2) := by
  intro r
  induction r with
  | nil =>
    intro f fs st ln t
    rw [encFs, encF, List.cons_append, mach0_quote, List.append_assoc, List.singleton_append, mach2_dbl, mach3_lf]
    simp [nls]
  | cons g r ih =>
    intro f fs st ln t
    rw [encFs, encF]
    simp only [List.cons_append, List.append_assoc, List.nil_append]
    rw [mach0_quote, mach2_dbl, mach3_comma, ih, nls_cons f]
    simp [Nat.add_assoc]

theorem mach_row (f : List UInt8) (r : List (List UInt8)) (ln : Nat) (t : List UInt8) :
    mach 4 [] [] 0 ln (encRow (f :: r) ++ t) = ((f :: r, ln) :: (mach 4 [] [] 0 (ln + 1 + nls (f :: r)) t).1, (mach 4 [] [] 0 (ln + 1 + nls (f :: r)) t).2) := by
  have h1 : ∃ u, encFs (f :: r) = 34 :: u := by
    cases r with
    | nil => exact ⟨_, by rw [encFs, encF]⟩
    | cons g r => exact ⟨_, by rw [encFs, encF, List.cons_append]⟩
  obtain ⟨u, hu⟩ := h1
  have h2 := mach_fields r f [] ln ln t
  rw [encRow, List.append_assoc, List.singleton_append]
  rw [hu, List.cons_append] at h2 ⊢
  rw [mach4_go _ _ _ _ _ _ (by decide), h2]
  simp [Nat.add_assoc, Nat.add_comm 1]

theorem mach_rows : ∀ (rs : List (List (List UInt8))) (ln : Nat), mach 4 [] [] 0 ln (encRows rs) = (recs ln rs, false)
  | [], ln => by rw [encRows, mach4_nil, recs]
  | [] :: rs, ln => by rw [encRows, encRow, encFs, List.nil_append, List.singleton_append, mach4_lf, mach_rows rs, recs]
  | (f :: r) :: rs, ln => by rw [encRows, mach_row, mach_rows rs, recs]

/-- A carriage return before a line feed is dropped. -/
def normF : List UInt8 → List UInt8
  | [] => []
  | [c] => [c]
  | c :: d :: r => if c = 13 ∧ d = 10 then normF (d :: r) else c :: normF (d :: r)

/-- Does one stand there? -/
def crlf : List UInt8 → Bool
  | c :: d :: r => (decide (c = 13) && decide (d = 10)) || crlf (d :: r)
  | _ => false

theorem normF_id : ∀ f, crlf f = false → normF f = f
  | [], _ => rfl
  | [_], _ => rfl
  | c :: d :: r, h => by
    rw [crlf, Bool.or_eq_false_iff] at h
    rw [normF, if_neg (fun hh => by simp [hh.1, hh.2] at h), normF_id (d :: r) h.2]

theorem lfs_normF : ∀ f, lfs (normF f) = lfs f
  | [] => rfl
  | [_] => rfl
  | c :: d :: r => by
    rw [normF]
    split
    · rename_i h
      rw [lfs_normF (d :: r), lfs_cons c, h.1]
      simp
    · rw [lfs_cons, lfs_normF (d :: r), lfs_cons c]

theorem norm_dbl : ∀ (f t : List UInt8), norm (dbl f ++ 34 :: t) = dbl (normF f) ++ norm (34 :: t)
  | [], t => by simp [dbl, normF]
  | [c], t => by
    by_cases hc : c = 34
    · subst hc
      rw [dbl_quote, normF, dbl_quote]
      simp only [dbl, List.cons_append, List.nil_append]
      rw [norm_one 34 _ (by decide), norm_one 34 _ (by decide)]
    · rw [normF, dbl_cons c _ hc]
      simp only [dbl, List.cons_append, List.nil_append]
      rw [norm, if_neg (fun h => absurd h.2 (by decide))]
  | c :: d :: r, t => by
    by_cases hc : c = 34
    · subst hc
      rw [dbl_quote, normF, if_neg (fun h => absurd h.1 (by decide)), dbl_quote]
      simp only [List.cons_append]
      rw [norm_one 34 _ (by decide), norm_one 34 _ (by decide), norm_dbl (d :: r) t]
    · by_cases hcd : c = 13 ∧ d = 10
      · obtain ⟨rfl, rfl⟩ := hcd
        have ih := norm_dbl (10 :: r) t
        rw [dbl_cons 10 _ (by decide), List.cons_append] at ih
        rw [dbl_cons 13 _ (by decide), dbl_cons 10 _ (by decide), List.cons_append, List.cons_append, norm, if_pos ⟨rfl, rfl⟩, normF, if_pos ⟨rfl, rfl⟩, ih]
      · have ih := norm_dbl (d :: r) t
        rw [normF, if_neg hcd, dbl_cons c _ hc, dbl_cons c _ hc, List.cons_append, List.cons_append, ← ih]
        by_cases hd : d = 34
        · subst hd
          rw [dbl_quote, List.cons_append, norm, if_neg (fun h => absurd h.2 (by decide))]
        · rw [dbl_cons d _ hd, List.cons_append, norm, if_neg hcd]

theorem norm_encF (f t : List UInt8) : norm (encF f ++ t) = encF (normF f) ++ norm t := by
  rw [encF, List.cons_append, List.append_assoc, List.singleton_append, norm_one 34 _ (by decide), norm_dbl, norm_one 34 _ (by decide), encF]
  simp

theorem norm_encFs : ∀ (r : List (List UInt8)) (t : List UInt8), norm (encFs r ++ 10 :: t) = encFs (r.map normF) ++ 10 :: norm t
  | [], t => by simp only [encFs, List.map_nil, List.nil_append]; rw [norm_one 10 _ (by decide)]
  | [f], t => by simp only [encFs, List.map_cons, List.map_nil]; rw [norm_encF, norm_one 10 _ (by decide)]
  | f :: g :: r, t => by
    have ih := norm_encFs (g :: r) t
    simp only [encFs, List.map_cons, List.append_assoc, List.cons_append] at ih ⊢
    rw [norm_encF, norm_one 44 _ (by decide), ih]

theorem norm_encRows : ∀ rs : List (List (List UInt8)), norm (encRows rs) = encRows (rs.map fun r => r.map normF)
  | [] => rfl
  | r :: rs => by
    rw [encRows, encRow, List.append_assoc, List.singleton_append, norm_encFs, norm_encRows rs, List.map_cons, encRows, encRow, List.append_assoc, List.singleton_append]

theorem nls_normF (r : List (List UInt8)) : nls (r.map normF) = nls r := by
  induction r with
  | nil => rfl
  | cons f r ih => rw [List.map_cons, nls_cons, nls_cons, ih, lfs_normF]

theorem dbl_length : ∀ f, (dbl f).length ≤ 2 * f.length
  | [] => by simp [dbl]
  | c :: r => by
    have := dbl_length r
    rw [dbl]
    split <;> simp only [List.length_cons] <;> omega

/-- The bytes of a row and three a field. -/
def wid (r : List (List UInt8)) : Nat := (r.map fun f => 2 * f.length + 3).sum

theorem wid_take (r : List (List UInt8)) (i : Nat) : wid (r.take i) ≤ wid r := by
  have : wid r = wid (r.take i) + wid (r.drop i) := by
    unfold wid
    rw [← List.sum_append, ← List.map_append, List.take_append_drop]
  omega

theorem encFs_length : ∀ r, (encFs r).length ≤ wid r
  | [] => by simp [encFs, wid]
  | [f] => by
    have := dbl_length f
    simp only [encFs, encF, wid, List.map_cons, List.map_nil, List.sum_cons, List.sum_nil, List.length_cons, List.length_append, List.length_nil]
    omega
  | f :: g :: r => by
    have := dbl_length f
    have ih := encFs_length (g :: r)
    simp only [encFs, encF, wid, List.map_cons, List.sum_cons, List.length_cons, List.length_append, List.length_nil] at ih ⊢
    omega

theorem encRows_length : ∀ rs : List (List (List UInt8)), (encRows rs).length ≤ (rs.map fun r => wid r + 1).sum
  | [] => by simp [encRows]
  | r :: rs => by
    have h1 := encFs_length r
    have h2 := encRows_length rs
    simp only [encRows, encRow, List.length_append, List.length_cons, List.length_nil, List.map_cons, List.sum_cons]
    omega

/-- One field more. -/
theorem encFs_snoc : ∀ (r : List (List UInt8)) (f : List UInt8), encFs (r ++ [f]) = encFs r ++ ((if r = [] then [] else [44]) ++ encF f)
  | [], f => by simp [encFs]
  | [g], f => by simp [encFs]
  | g :: h :: r, f => by
    have ih := encFs_snoc (h :: r) f
    rw [if_neg (by simp)] at ih ⊢
    simp only [List.cons_append, encFs, List.append_assoc] at ih ⊢
    rw [ih]

theorem dbl_append : ∀ (a b : List UInt8), dbl (a ++ b) = dbl a ++ dbl b
  | [], b => rfl
  | c :: a, b => by
    rw [List.cons_append, dbl, dbl, dbl_append a b]
    split <;> simp

theorem encRows_append : ∀ (a b : List (List (List UInt8))), encRows (a ++ b) = encRows a ++ encRows b
  | [], b => rfl
  | r :: a, b => by rw [List.cons_append, encRows, encRows_append a b, encRows, List.append_assoc]
end Go.Proofs.Qxb6612546aFmt.Cs
