import Derived.Test.Qxb6612546aFmtTopP
import Derived.Test.Qxb6612546aFmtEnc3
import Derived.Test.Qxb6612546aFmtGuard2
import Derived.Test.Qxb6612546aFmtSame
namespace Go.Proofs.Qxb6612546aFmt
open Go.RowKit Go.Extern.Stop Go.Stop Go.Extern

theorem tot_mem {xss : List (List ByteArray)} {r : List ByteArray} (h : r ∈ xss) : r.length + sizes r ≤ tot xss := by
  induction xss with
  | nil => simp at h
  | cons a xss ih =>
    simp only [tot, List.map_cons, List.sum_cons]
    rcases List.mem_cons.1 h with rfl | h
    · omega
    · have := ih h; simp only [tot] at this; omega

theorem tot_take_le (xss : List (List ByteArray)) (k : Nat) : tot (xss.take k) ≤ tot xss := by
  have : tot xss = tot (xss.take k) + tot (xss.drop k) := by
    unfold tot
    rw [← List.sum_append, ← List.map_append, List.take_append_drop]
  omega

theorem nls_le (r : List ByteArray) : Cs.nls (bytesOf r) ≤ sizes r := by
  induction r with
  | nil => simp [bytesOf, Cs.nls, sizes]
  | cons y r ih =>
    have := lfs_le y.data.toList
    simp only [bytesOf, List.map_cons, Cs.nls_cons, sizes, List.sum_cons] at ih ⊢
    simp at this
    omega

/-- A row's bytes as the reader hands them. -/
def nrow (r : List ByteArray) : List (List UInt8) := (bytesOf r).map Cs.normF

theorem nrow_length (r : List ByteArray) : (nrow r).length = r.length := by simp [nrow, bytesOf]

theorem nrow_id {r : List ByteArray} (h : ∀ x ∈ r, Cs.crlf x.data.toList = false) : nrow r = bytesOf r := by
  unfold nrow
  conv => rhs; rw [← List.map_id (bytesOf r)]
  refine List.map_congr_left (fun f hf => ?_)
  obtain ⟨x, hx, rfl⟩ := List.mem_map.1 hf
  exact Cs.normF_id _ (h x hx)

theorem nls_nrow (r : List ByteArray) : Cs.nls (nrow r) = Cs.nls (bytesOf r) := Cs.nls_normF _

/-- The written text. -/
def encS (xs : List ByteArray) (xss : List (List ByteArray)) : ByteArray := ⟨(Cs.encRows (rowsOf2 (xs :: xss))).toArray⟩

theorem wid_bytes (r : List ByteArray) : Cs.wid (bytesOf r) = 2 * sizes r + 3 * r.length := by
  induction r with
  | nil => rfl
  | cons x r ih =>
    simp only [bytesOf, Cs.wid, List.map_cons, List.sum_cons, sizes, List.length_cons] at ih ⊢
    have : x.data.toList.length = x.size := by simp
    omega

theorem wids_rows (xss : List (List ByteArray)) : wids (rowsOf2 xss) ≤ 3 * tot xss + xss.length := by
  induction xss with
  | nil => simp [wids, rowsOf2]
  | cons r xss ih =>
    simp only [wids, rowsOf2, tot, List.map_cons, List.sum_cons, List.length_cons] at ih ⊢
    rw [wid_bytes]
    omega

theorem wids_all (xs : List ByteArray) (xss : List (List ByteArray)) (h : xs.length + sizes xs + xss.length + tot xss ≤ 1048576) : wids (rowsOf2 (xs :: xss)) ≤ 4194304 := by
  have h1 := wids_rows xss
  have h2 : wids (rowsOf2 (xs :: xss)) = Cs.wid (bytesOf xs) + 1 + wids (rowsOf2 xss) := by simp [wids, rowsOf2]
  rw [h2, wid_bytes]
  omega

theorem encS_size (xs : List ByteArray) (xss : List (List ByteArray)) (h : wids (rowsOf2 (xs :: xss)) ≤ 4194304) : (encS xs xss).size ≤ 4194304 := by
  have := Cs.encRows_length (rowsOf2 (xs :: xss))
  show (Cs.encRows (rowsOf2 (xs :: xss))).toArray.size ≤ _
  simp only [List.size_toArray]
  unfold wids at h
  omega

theorem recs_cons (ln : Nat) (r : List (List UInt8)) (rs : List (List (List UInt8))) (h : r ≠ []) : Cs.recs ln (r :: rs) = (r, ln) :: Cs.recs (ln + 1 + Cs.nls r) rs := by
  cases r with
  | nil => exact absurd rfl h
  | cons f r => rfl
theorem recs_nil (ln : Nat) (rs : List (List (List UInt8))) : Cs.recs ln ([] :: rs) = Cs.recs (ln + 1) rs := rfl

/-- What the machine says of the written text. -/
theorem mach_encS (xs : List ByteArray) (xss : List (List ByteArray)) (h0 : xs ≠ []) (hc : ∀ x ∈ xs, Cs.crlf x.data.toList = false) :
    Cs.mach 4 [] [] 0 1 (Cs.norm (encS xs xss).data.toList) = ((bytesOf xs, 1) :: Cs.recs (2 + Cs.nls (bytesOf xs)) (xss.map nrow), false) := by
  have e : (encS xs xss).data.toList = Cs.encRows (rowsOf2 (xs :: xss)) := by simp [encS]
  have e2 : (rowsOf2 (xs :: xss)).map (fun r => r.map Cs.normF) = bytesOf xs :: xss.map nrow := by
    rw [rowsOf2, List.map_cons, List.map_cons, List.map_map]
    congr 1
    exact nrow_id hc
  rw [e, Cs.norm_encRows, e2, Cs.mach_rows, recs_cons _ _ _ (by intro h; apply h0; have := congrArg List.length h; rw [bytesOf_length] at this; exact List.eq_nil_of_length_eq_zero (by simpa using this))]

theorem hdr_names {xs : List ByteArray} (h : ∀ x, xs[0]? = some x → Lib.hasPrefix x.data.toList [239, 187, 191] = false) : hdrOf xs = xs := by
  cases xs with
  | nil => rfl
  | cons x r =>
    have := h x rfl
    simp [hdrOf, trimB, Lib.trimPrefix, this]

theorem acc_names {xs : List ByteArray} (h : xs.Nodup) : Acc xs xs [] := ⟨fun _ hn => .inl hn, h, fun _ hn => hn⟩

/-- The reader in the middle of the written text. -/
def Mid2 (N T : Nat) (s : ByteArray) (ea : Addr) (fpr : Int) (wX : World) (ln : Nat) (rs : List (List (List UInt8))) (wr : World) : Prop :=
  ∃ P nl st rcv, TR wr N T s P ea fpr nl st rcv ∧ Below N wX wr ∧ nl + P.length ≤ s.size ∧ Cs.mach 4 [] [] 0 (nl + 1) (Cs.norm P) = (Cs.recs ln rs, false)

/-- The reader over the written text is made. -/
theorem made_of {s : ByteArray} {N : Nat} {xs : List ByteArray} {xss : List (List ByteArray)} {ea : Addr} {w : World} {en : Ending} {w' : World} (hs : s = encS xs xss) (h0 : xs ≠ []) (hn : xs.Nodup) (hb : ∀ x, xs[0]? = some x → Lib.hasPrefix x.data.toList [239, 187, 191] = false)
    (hc : ∀ x ∈ xs, Cs.crlf x.data.toList = false) (h : NewPost N s xs [] ea w en w') :
    Below N w w' ∧ ∃ T, en = .returned (.tuple #[.pointer (some ⟨T, 0, none⟩), .nilIface]) ∧ 0 < xs.length ∧
      ∃ P nl rcv, TR w' N T s P ea xs.length nl 1 rcv ∧ nl + P.length ≤ s.size ∧ Cs.mach 4 [] [] 0 (nl + 1) (Cs.norm P) = (Cs.recs (2 + Cs.nls (bytesOf xs)) (xss.map nrow), false) := by
  obtain ⟨hB, hcs⟩ := h
  have hM := mach_encS xs xss h0 hc
  rw [← hs] at hM
  refine ⟨hB, ?_⟩
  rcases hcs with ⟨hno, _⟩ | ⟨x, st, P', nl', T, k1, k2, k3, k4, k5, k6, k7⟩
  · exfalso
    refine hno (bytesOf xs) 1 (Cs.recs (2 + Cs.nls (bytesOf xs)) (xss.map nrow)) (by rw [hM]) ?_
    rw [strsOf_bytesOf, hdr_names hb]
    exact acc_names hn
  · rw [hM] at k1
    simp only [Prod.mk.injEq, List.cons.injEq] at k1
    obtain ⟨⟨⟨rfl, rfl⟩, k1⟩, k1b⟩ := k1
    rw [bytesOf_length] at k4 k7
    exact ⟨T, k6, k4, P', nl', _, k7, k3, Prod.ext k1.symm k1b.symm⟩
end Go.Proofs.Qxb6612546aFmt
