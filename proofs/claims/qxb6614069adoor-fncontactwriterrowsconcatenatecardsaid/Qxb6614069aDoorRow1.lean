import Derived.Test.Qxb6614069aDoorDist6
namespace Go.Proofs.Qxb6614069aDoor
open Go.RowKit Go.Lib

/-- No line end; a comma just where c says. -/
def Seg (l : List UInt8) (c : Nat → Prop) : Prop := ∀ j x, l[j]? = some x → x ≠ 10 ∧ (x = 44 ↔ c j)

theorem Seg.one {l : List UInt8} (h : ∀ x ∈ l, x ≠ 10 ∧ x ≠ 44) : Seg l (fun _ => False) := fun j x hj => by
  have h1 := h x (List.mem_of_getElem? hj)
  exact ⟨h1.1, fun e => h1.2 e, fun e => e.elim⟩

theorem Seg.cons {l r : List UInt8} {c : Nat → Prop} (h : ∀ x ∈ l, x ≠ 10 ∧ x ≠ 44) (hr : Seg r c) : Seg (l ++ 44 :: r) (fun j => j = l.length ∨ (l.length < j ∧ c (j - l.length - 1))) := fun j x hj => by
  by_cases h1 : j < l.length
  · rw [List.getElem?_append_left h1] at hj
    have h2 := h x (List.mem_of_getElem? hj)
    exact ⟨h2.1, fun e => absurd e h2.2, fun e => by omega⟩
  · rw [List.getElem?_append_right (by omega)] at hj
    by_cases h3 : j = l.length
    · subst h3
      rw [Nat.sub_self] at hj
      have e : x = 44 := by simpa using hj.symm
      subst e
      exact ⟨by decide, fun _ => .inl rfl, fun _ => rfl⟩
    · obtain ⟨k, rfl⟩ : ∃ k, j = l.length + 1 + k := ⟨j - l.length - 1, by omega⟩
      rw [show l.length + 1 + k - l.length = k + 1 by omega, List.getElem?_cons_succ] at hj
      have h4 := hr k x hj
      refine ⟨h4.1, fun e => .inr ⟨by omega, ?_⟩, fun e => ?_⟩
      · rw [show l.length + 1 + k - l.length - 1 = k by omega]; exact h4.2.1 e
      · rcases e with e | ⟨_, e⟩
        · omega
        · rw [show l.length + 1 + k - l.length - 1 = k by omega] at e; exact h4.2.2 e

theorem Seg.of {l : List UInt8} {c d : Nat → Prop} (h : Seg l c) (hcd : ∀ j, c j ↔ d j) : Seg l d := fun j x hj => ⟨(h j x hj).1, (h j x hj).2.trans (hcd j)⟩

/-- A row's text, in parts. -/
structure RParts (s body sI sA sB sF : ByteArray) (c0 c1 c2 N : Nat) : Prop where
  sz : s.size = N + 1
  bsz : body.size = N
  last : ∀ h : N < s.size, s[N] = 10
  cut : s.extract 0 N = body
  at_ : ∀ j (hj : j < body.size), body[j] ≠ 10 ∧ (body[j] = 44 ↔ (j = c0 ∨ j = c1 ∨ j = c2))
  o1 : c0 < c1
  o2 : c1 < c2
  o3 : c2 < N
  e0 : body.extract 0 c0 = sI
  e1 : body.extract (c0 + 1) c1 = sA
  e2 : body.extract (c1 + 1) c2 = sB
  e3 : body.extract (c2 + 1) N = sF

theorem itoa_clean (i : Int) : ∀ c ∈ Lib.itoa i, c ≠ 10 ∧ c ≠ 44 := by
  intro c hc
  by_cases h : i < 0
  · obtain ⟨u, rfl⟩ : ∃ u : Nat, i = -(u : Int) := ⟨i.natAbs, by omega⟩
    rw [Lib.itoa_neg u (by omega)] at hc
    rcases List.mem_cons.1 hc with rfl | hc
    · decide
    · exact isDig_ne (decDigits_dig u c hc)
  · obtain ⟨u, rfl⟩ : ∃ u : Nat, i = (u : Int) := ⟨i.natAbs, by omega⟩
    have e1 : Lib.itoa (u : Int) = Lib.decDigits u := by unfold Lib.itoa; rw [if_neg h]; rfl
    rw [e1] at hc
    exact isDig_ne (decDigits_dig u c hc)

theorem bstr_mid (p q r : List UInt8) : (bstr (p ++ (q ++ r))).extract p.length (p.length + q.length) = bstr q := by
  unfold bstr
  rw [ByteArray.extract_mk]
  congr 1
  apply Array.ext'
  simp

theorem rparts (st : Int) (a b d : Nat) : RParts (bstr (rowText st a b d)) (bstr (Lib.itoa st ++ 44 :: (decDigits a ++ 44 :: (decDigits b ++ 44 :: fl d)))) (bstr (Lib.itoa st)) (bstr (decDigits a)) (bstr (decDigits b)) (bstr (fl d))
    (Lib.itoa st).length ((Lib.itoa st).length + 1 + (decDigits a).length) ((Lib.itoa st).length + 1 + (decDigits a).length + 1 + (decDigits b).length) ((Lib.itoa st).length + 1 + (decDigits a).length + 1 + (decDigits b).length + 1 + (fl d).length) := by
  have hI := itoa_clean st
  have hA := fun c hc => isDig_ne (decDigits_dig a c hc)
  have hB := fun c hc => isDig_ne (decDigits_dig b c hc)
  have hF := fl_bytes d
  have hrow : rowText st a b d = (Lib.itoa st ++ 44 :: (decDigits a ++ 44 :: (decDigits b ++ 44 :: fl d))) ++ [10] := by
    unfold rowText
    simp
  rw [hrow]
  obtain ⟨I, hId⟩ : ∃ I, I = Lib.itoa st := ⟨_, rfl⟩
  obtain ⟨A, hAd⟩ : ∃ A, A = decDigits a := ⟨_, rfl⟩
  obtain ⟨B, hBd⟩ : ∃ B, B = decDigits b := ⟨_, rfl⟩
  obtain ⟨F, hFd⟩ : ∃ F, F = fl d := ⟨_, rfl⟩
  rw [← hId] at hI
  rw [← hAd] at hA
  rw [← hBd] at hB
  rw [← hFd] at hF
  rw [← hId, ← hAd, ← hBd, ← hFd]
  clear hrow hId hAd hBd hFd
  have hlen : (I ++ 44 :: (A ++ 44 :: (B ++ 44 :: F))).length = I.length + 1 + A.length + 1 + B.length + 1 + F.length := by
    simp only [List.length_append, List.length_cons]
    omega
  have hseg : Seg (I ++ 44 :: (A ++ 44 :: (B ++ 44 :: F))) (fun j => j = I.length ∨ j = I.length + 1 + A.length ∨ j = I.length + 1 + A.length + 1 + B.length) :=
    (Seg.cons hI (Seg.cons hA (Seg.cons hB (Seg.one hF)))).of (fun j => by
      constructor
      · rintro (h | ⟨h0, h | ⟨h1, h | ⟨h2, h⟩⟩⟩)
        · exact .inl h
        · exact .inr (.inl (by omega))
        · exact .inr (.inr (by omega))
        · exact h.elim
      · rintro (h | h | h)
        · exact .inl h
        · exact .inr ⟨by omega, .inl (by omega)⟩
        · exact .inr ⟨by omega, .inr ⟨by omega, .inl (by omega)⟩⟩)
  refine ⟨by rw [bstr_size, List.length_append, hlen]; rfl, by rw [bstr_size, hlen], fun h => ?_, ?_, fun j hj => ?_, by omega, by omega, by omega, ?_, ?_, ?_, ?_⟩
  · refine bstr_at _ _ _ ?_ h
    rw [List.getElem?_append_right (by omega), hlen, Nat.sub_self]
    rfl
  · have h1 := bstr_head (I ++ 44 :: (A ++ 44 :: (B ++ 44 :: F))) [10]
    rw [bstr_size, hlen] at h1
    exact h1
  · have hj' : j < (I ++ 44 :: (A ++ 44 :: (B ++ 44 :: F))).length := by rw [bstr_size] at hj; exact hj
    have h1 := List.getElem?_eq_getElem hj'
    rw [bstr_at _ j _ h1 hj]
    exact hseg j _ h1
  · have h1 := bstr_head I (44 :: (A ++ 44 :: (B ++ 44 :: F)))
    rw [bstr_size] at h1
    exact h1
  · have h1 := bstr_mid (I ++ [44]) A (44 :: (B ++ 44 :: F))
    simp only [List.length_append, List.length_cons, List.length_nil, List.append_assoc, List.cons_append, List.nil_append] at h1
    rw [show I.length + 1 + A.length = I.length + (0 + 1) + A.length by omega]
    exact h1
  · have h1 := bstr_mid (I ++ 44 :: (A ++ [44])) B (44 :: F)
    simp only [List.length_append, List.length_cons, List.length_nil, List.append_assoc, List.cons_append, List.nil_append] at h1
    rw [show I.length + 1 + A.length + 1 = I.length + (A.length + (0 + 1) + 1) by omega]
    exact h1
  · have h1 := bstr_tail (I ++ 44 :: (A ++ 44 :: (B ++ [44]))) F
    rw [bstr_size] at h1
    simp only [List.length_append, List.length_cons, List.length_nil, List.append_assoc, List.cons_append, List.nil_append] at h1
    rw [show I.length + 1 + A.length + 1 + B.length + 1 = I.length + (A.length + (B.length + (0 + 1) + 1) + 1) by omega]
    rw [show I.length + (A.length + (B.length + (0 + 1) + 1) + 1) + F.length = I.length + (A.length + (B.length + (F.length + 1) + 1) + 1) by omega]
    exact h1

end Go.Proofs.Qxb6614069aDoor
