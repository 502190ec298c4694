import Derived.Test.Qxb6614069aDoorTr3
namespace Go.Proofs.Qxb6614069aDoor
open Go.RowKit Go.Lib

/-- How many line ends. -/
def lfs (l : List UInt8) : Nat := l.count 10

theorem lfs_append (a b : List UInt8) : lfs (a ++ b) = lfs a + lfs b := List.count_append
theorem lfs_le (l : List UInt8) : lfs l ≤ l.length := List.count_le_length
theorem lfs_zero {l : List UInt8} (h : ∀ c ∈ l, c ≠ 10) : lfs l = 0 := List.count_eq_zero.2 (fun e => h 10 e rfl)

theorem lfs_take (s : ByteArray) (j : Nat) (hj : j < s.size) : lfs (s.data.toList.take (j + 1)) = lfs (s.data.toList.take j) + (if s[j] = 10 then 1 else 0) := by
  rw [List.take_succ_eq_append_getElem (by simpa using hj), lfs_append]
  congr 1
  simp [lfs, List.count_cons]
  rfl

theorem itoa_bytes (i : Int) : ∀ c ∈ Lib.itoa i, c ≠ 10 := by
  intro c hc
  by_cases h : i < 0
  · obtain ⟨u, rfl⟩ : ∃ u : Nat, i = -(u : Int) := ⟨i.natAbs, by omega⟩
    rw [Lib.itoa_neg u (by omega)] at hc
    rcases List.mem_cons.1 hc with rfl | hc
    · decide
    · exact (isDig_ne (decDigits_dig u c hc)).1
  · obtain ⟨u, rfl⟩ : ∃ u : Nat, i = (u : Int) := ⟨i.natAbs, by omega⟩
    have e1 : Lib.itoa (u : Int) = Lib.decDigits u := by unfold Lib.itoa; rw [if_neg h]; rfl
    rw [e1] at hc
    exact (isDig_ne (decDigits_dig u c hc)).1

/-- A row's head: all but the distance. -/
def leadText (st : Int) (a b : Nat) : List UInt8 := Lib.itoa st ++ [44] ++ Lib.decDigits a ++ [44] ++ Lib.decDigits b ++ [44]

theorem rowText_lead (st : Int) (a b d : Nat) : rowText st a b d = leadText st a b ++ (fl d ++ [10]) := by
  unfold rowText leadText
  rw [List.append_assoc _ (fl d)]

theorem lead_lfs (st : Int) (a b : Nat) : lfs (leadText st a b) = 0 := by
  have h1 := lfs_zero (itoa_bytes st)
  have h2 := lfs_zero (fun c hc => (isDig_ne (decDigits_dig a c hc)).1)
  have h3 := lfs_zero (fun c hc => (isDig_ne (decDigits_dig b c hc)).1)
  have h4 : lfs [44] = 0 := by decide
  unfold leadText
  simp only [lfs_append, h1, h2, h3, h4]

theorem row_lfs (st : Int) (a b d : Nat) : lfs (rowText st a b d) = 1 := by
  rw [rowText_lead, lfs_append, lfs_append, lead_lfs, lfs_zero (fun c hc => (fl_bytes d c hc).1)]
  decide

theorem row_length (st : Int) (a b d : Nat) (h0 : -9223372036854775808 ≤ st) (h1 : st ≤ 9223372036854775807) (ha : a < 18446744073709551616) (hb : b < 18446744073709551616) : (leadText st a b).length ≤ 64 ∧ (rowText st a b d).length ≤ 465 := by
  have g1 := Lib.itoa_length_le st h0 h1
  have g2 := nDigits_le20 a ha
  have g3 := nDigits_le20 b hb
  have g4 := fl_length d
  have h : (leadText st a b).length ≤ 64 := by
    unfold leadText
    simp only [List.length_append, Lib.decDigits_length, List.length_cons, List.length_nil]
    omega
  refine ⟨h, ?_⟩
  rw [rowText_lead]
  simp only [List.length_append, List.length_cons, List.length_nil] at h ⊢
  omega

theorem header_lfs : lfs header = 1 := by decide
theorem header_length : header.length = 33 := by decide

/-- What came in. -/
structure Ins where
  xs : List Int
  xa : List Nat
  xb : List Nat
  xd : List Nat

structure Ins.Ok (i : Ins) : Prop where
  s : ∀ x ∈ i.xs, -9223372036854775808 ≤ x ∧ x ≤ 9223372036854775807
  a : ∀ x ∈ i.xa, x < 18446744073709551616
  b : ∀ x ∈ i.xb, x < 18446744073709551616
  d : ∀ x ∈ i.xd, x < 18446744073709551616

def Ins.row (i : Ins) (j : Nat) : List UInt8 := rowText (i.xs.getD j 0) (i.xa.getD j 0) (i.xb.getD j 0) (i.xd.getD j 0)
def Ins.lead (i : Ins) (j : Nat) : List UInt8 := leadText (i.xs.getD j 0) (i.xa.getD j 0) (i.xb.getD j 0)

/-- The text of the first t rows under the header. -/
def Ins.text (i : Ins) : Nat → List UInt8
  | 0 => header
  | t + 1 => i.text t ++ i.row t

theorem getD_in {α : Type} {P : α → Prop} (l : List α) (d : α) (hd : P d) (h : ∀ x ∈ l, P x) (j : Nat) : P (l.getD j d) := by
  rw [List.getD_eq_getElem?_getD]
  cases e : l[j]? with
  | none => exact hd
  | some x => exact h x (List.mem_of_getElem? e)

theorem Ins.Ok.at {i : Ins} (h : i.Ok) (j : Nat) : (-9223372036854775808 ≤ i.xs.getD j 0 ∧ i.xs.getD j 0 ≤ 9223372036854775807) ∧ i.xa.getD j 0 < 18446744073709551616 ∧ i.xb.getD j 0 < 18446744073709551616 ∧ i.xd.getD j 0 < 18446744073709551616 :=
  ⟨getD_in (P := fun x => -9223372036854775808 ≤ x ∧ x ≤ 9223372036854775807) i.xs 0 (by omega) h.s j, getD_in (P := fun x => x < 18446744073709551616) i.xa 0 (by omega) h.a j, getD_in (P := fun x => x < 18446744073709551616) i.xb 0 (by omega) h.b j, getD_in (P := fun x => x < 18446744073709551616) i.xd 0 (by omega) h.d j⟩

theorem Ins.text_length {i : Ins} (h : i.Ok) : ∀ t, (i.text t).length ≤ 33 + 465 * t
  | 0 => by rw [Ins.text, header_length]; omega
  | t + 1 => by
    have h1 := Ins.text_length h t
    obtain ⟨⟨k1, k2⟩, k3, k4, k5⟩ := h.at t
    have h2 := (row_length _ _ _ (i.xd.getD t 0) k1 k2 k3 k4).2
    rw [Ins.text, List.length_append]
    unfold Ins.row
    omega

theorem Ins.text_lfs (i : Ins) : ∀ t, lfs (i.text t) = t + 1
  | 0 => header_lfs
  | t + 1 => by rw [Ins.text, lfs_append, Ins.text_lfs i t]; unfold Ins.row; rw [row_lfs]

theorem Ins.row_lead (i : Ins) (j : Nat) : i.row j = i.lead j ++ (fl (i.xd.getD j 0) ++ [10]) := rowText_lead _ _ _ _

/-- Cuts of a string. -/
theorem bstr_head (p r : List UInt8) : (bstr (p ++ r)).extract 0 (bstr p).size = bstr p := by
  unfold bstr
  rw [ByteArray.extract_mk]
  simp [ByteArray.size]

theorem bstr_tail (p r : List UInt8) : (bstr (p ++ r)).extract p.length (bstr (p ++ r)).size = bstr r := by
  unfold bstr
  rw [ByteArray.extract_mk]
  simp [ByteArray.size]

theorem bstr_append (p r : List UInt8) : bstr p ++ bstr r = bstr (p ++ r) := by
  unfold bstr
  apply ByteArray.ext
  simp

theorem bstr_list (p : List UInt8) : (bstr p).data.toList = p := by simp [bstr]

end Go.Proofs.Qxb6614069aDoor
