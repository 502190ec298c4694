import Derived.Test.Qxb6612546aFmtSt
namespace Go.Proofs.Qxb6612546aFmt
open Go.RowKit

section
variable {w0 : World} {rows0 : List Value} {w : World} {N : Nat} {s : ByteArray} {P : List UInt8} {ea : Addr} {fpr : Int} {nl : Nat} {raw rec fi fp last : Value} {pb : Nat} {qs : List Nat} {bytes : List UInt8} {idx : List Nat} {cnt rl : Nat}

/-- Behind a line that was read. -/
theorem St.line (h : St w0 rows0 w N s P ea fpr nl raw rec fi fp last pb qs bytes idx cnt rl) {w2 : World} {raw' : Value} {P' : List UInt8} {nl' : Nat} (hR : RdS w2 N s P' ea fpr nl' raw' rec fi fp last) (hF : Fr (LineS N raw) w w2) (hn : NewOr w raw raw') (hv : ∀ g, raw'.ownBlock = some g → N + 4 ≤ g ∧ g < w2.heap.size) :
    St w0 rows0 w2 N s P' ea fpr nl' raw' rec fi fp last pb qs bytes idx cnt rl := by
  have key : ∀ (j : Nat) (Y : Value), (rowsOf raw rec fi fp last pb qs)[j]? = some Y → j ≠ 0 → ∀ g, Y.ownBlock = some g → ¬ LineS N raw g := by
    intro j Y hY hj g hg hs
    have h1 := h.lies Y (List.mem_of_getElem? hY) g hg
    rcases hs with e | e | e
    · simp [BufS] at e; omega
    · omega
    · exact h.sep 0 j raw Y rfl hY (fun e => hj e.symm) g e hg
  obtain ⟨cells, hfp1, hfp2⟩ := h.rfp
  obtain ⟨lk, ls, hls⟩ := h.rlast
  obtain ⟨pl, pc, hp1, hp2⟩ := h.pos
  refine ⟨hR, Fr.own h.rrec hF (key 1 rec rfl (by omega)), Fr.own h.rfi hF (key 2 fi rfl (by omega)), ⟨cells, Fr.own hfp1 hF (key 3 fp rfl (by omega)), hfp2⟩, ⟨lk, ls, Fr.own hls hF (key 4 last rfl (by omega))⟩, h.sep.set h.lies 0 raw raw' rfl hn, h.lies.set hF.size 0 raw' hv, ?_, h.old_set (i := 0) rfl hn, ⟨pl, pc, hF.heap hp1 (key 5 (blkV pb) rfl (by omega) pb rfl), hp2⟩, ?_⟩
  · refine h.fr.trans hF (fun k hk hs => ?_)
    rcases hs with e | e | e
    · exact .inl (by simp [BufS] at e; omega)
    · exact .inl (by omega)
    · rcases h.old raw (by simp [rowsOf]) k e with h0 | h0
      · exact .inr h0
      · omega
  · intro qb hq
    obtain ⟨j, hj⟩ := List.getElem?_of_mem hq
    obtain ⟨ql, qc, hq1, hq2⟩ := h.qos qb hq
    exact ⟨ql, qc, hF.heap hq1 (key (6 + j) (blkV qb) (rows_q hj) (by omega) qb rfl), hq2⟩

theorem RdS.fr {S : Nat → Prop} {w2 : World} (h : RdS w N s P ea fpr nl raw rec fi fp last) (hF : Fr S w w2) (h1 : ∀ k, N ≤ k → k ≤ N + 3 → ¬ S k) (h2 : ∀ g, raw.ownBlock = some g → ¬ S g) : RdS w2 N s P ea fpr nl raw rec fi fp last := by
  obtain ⟨i, r, n, e, bs, pr, lb, lr, off, m, xs, hR⟩ := h
  exact ⟨i, r, n, e, bs, pr, lb, lr, off, m, xs, hR.buf.fr hF (fun k hk => h1 k (by simp [BufS] at hk; omega) (by simp [BufS] at hk; omega)), hR.err, hR.pnd, hR.csv.fr hF (h1 _ (by omega) (by omega)), Fr.own hR.row hF h2⟩

/-- Behind a step that only makes memory. -/
theorem St.below (h : St w0 rows0 w N s P ea fpr nl raw rec fi fp last pb qs bytes idx cnt rl) {w2 : World} (hb : Below w.heap.size w w2) : St w0 rows0 w2 N s P ea fpr nl raw rec fi fp last pb qs bytes idx cnt rl := by
  have hF : Fr (fun _ => False) w w2 := Fr.of_below hb
  obtain ⟨cells, hfp1, hfp2⟩ := h.rfp
  obtain ⟨lk, ls, hls⟩ := h.rlast
  obtain ⟨pl, pc, hp1, hp2⟩ := h.pos
  refine ⟨h.rd.fr hF (fun _ _ _ e => e) (fun _ _ e => e), Fr.own h.rrec hF (fun _ _ e => e), Fr.own h.rfi hF (fun _ _ e => e), ⟨cells, Fr.own hfp1 hF (fun _ _ e => e), hfp2⟩, ⟨lk, ls, Fr.own hls hF (fun _ _ e => e)⟩, h.sep, h.lies.mono hb.size, h.fr.trans hF (fun _ _ e => e.elim), h.old, ⟨pl, pc, hF.heap hp1 (fun e => e), hp2⟩, ?_⟩
  intro qb hq
  obtain ⟨ql, qc, hq1, hq2⟩ := h.qos qb hq
  exact ⟨ql, qc, hF.heap hq1 (fun e => e), hq2⟩

/-- pos, written. -/
theorem St.setpos (h : St w0 rows0 w N s P ea fpr nl raw rec fi fp last pb qs bytes idx cnt rl) (j : Nat) (x : Int) (hj : j = 1 ∨ (j = 0 ∧ qs ≠ [])) : St w0 rows0 (w.setCell ⟨pb, j, none⟩ (.int .i64 x)) N s P ea fpr nl raw rec fi fp last pb qs bytes idx cnt rl := by
  have hF := fr_setCell w pb j (.int .i64 x)
  have hpb := (h.lies (blkV pb) (by simp [rowsOf]) pb rfl).1
  have hF2 : Fr (fun k => k = N + 3 ∨ (blkV pb).ownBlock = some k) w (w.setCell ⟨pb, j, none⟩ (.int .i64 x)) := hF.mono (fun k _ e => .inr (by rw [e]; rfl))
  obtain ⟨k1, k2, k3⟩ := h.keep (i := 5) rfl hF2
  have hsz : w.heap.size = (w.setCell ⟨pb, j, none⟩ (.int .i64 x)).heap.size := by simp [World.setCell]
  obtain ⟨cells, hfp1, hfp2⟩ := h.rfp
  obtain ⟨lk, ls, hls⟩ := h.rlast
  obtain ⟨pl, pc, hp1, hp2⟩ := h.pos
  refine ⟨h.rd.fr hF (fun k h1 h2 e => by omega) (fun g hg e => h.sep 0 5 raw (blkV pb) rfl rfl (by omega) g hg (by rw [e]; rfl)), k1 1 rec _ _ _ _ rfl (by omega) h.rrec, k1 2 fi _ _ _ _ rfl (by omega) h.rfi, ⟨cells, k1 3 fp _ _ _ _ rfl (by omega) hfp1, hfp2⟩, ⟨lk, ls, k1 4 last _ _ _ _ rfl (by omega) hls⟩, h.sep, by rw [← hsz]; exact h.lies, h.frame (i := 5) rfl hF2, h.old, ?_, ?_⟩
  · rw [heap_setCell_same w pb j _ _ _ hp1]
    rcases hj with rfl | ⟨rfl, hq⟩
    · exact ⟨pl, x, rfl, hp2⟩
    · exact ⟨x, pc, rfl, fun e => absurd e hq⟩
  · intro qb hq
    obtain ⟨j', hj'⟩ := List.getElem?_of_mem hq
    obtain ⟨ql, qc, hq1, hq2⟩ := h.qos qb hq
    exact ⟨ql, qc, k2 (6 + j') qb _ (rows_q hj') (by omega) hq1, hq2⟩

/-- A quoted field begins: its place is noted. -/
theorem St.newq (h : St w0 rows0 w N s P ea fpr nl raw rec fi fp last pb [] bytes idx cnt rl) {w2 : World} {qb : Nat} (hb : Below w.heap.size w w2) (hq : w.heap.size ≤ qb) (hq2 : qb < w2.heap.size) (hc : ∃ (pl pc : Int), w2.heap[qb]? = some (.cells #[.int .i64 pl, .int .i64 pc] 82 (0, 0)) ∧ (cnt = 0 → pl = rl)) :
    St w0 rows0 w2 N s P ea fpr nl raw rec fi fp last pb [qb] bytes idx cnt rl := by
  have h2 := h.below hb
  have hmem : ∀ v, v ∈ rowsOf raw rec fi fp last pb [qb] → v ∈ rowsOf raw rec fi fp last pb [] ∨ v = blkV qb := by
    intro v hv
    rw [rowsOf, List.mem_append] at hv
    rcases hv with h0 | h0
    · left; rw [rowsOf, List.mem_append]; exact .inl h0
    · right; simpa using h0
  have hN : N + 4 ≤ w.heap.size := by
    obtain ⟨i, r, n, e, bs, pr, lb, lr, off, m, xs, hR⟩ := h.rd
    have := (Array.getElem?_eq_some_iff.1 hR.csv.block).1; omega
  refine ⟨h2.rd, h2.rrec, h2.rfi, h2.rfp, h2.rlast, ?_, ?_, h2.fr, ?_, ?_, ?_⟩
  · intro i j a b ha hb' hij g hg hgb
    have hnew : ∀ v, v ∈ rowsOf raw rec fi fp last pb [] → v.ownBlock ≠ some qb := fun v hv e => by have := (h.lies v hv qb e).2; omega
    have hidx : ∀ (k : Nat) (v : Value), (rowsOf raw rec fi fp last pb [qb])[k]? = some v → ((rowsOf raw rec fi fp last pb [])[k]? = some v ∧ k ≠ 6) ∨ (k = 6 ∧ v = blkV qb) := by
      intro k v hk
      by_cases hk6 : k < 6
      · left; refine ⟨?_, by omega⟩
        rw [rowsOf, List.getElem?_append_left (by simpa using hk6)] at hk ⊢
        exact hk
      · right
        have := (List.getElem?_eq_some_iff.1 hk).1
        simp [rowsOf] at this
        obtain rfl : k = 6 := by omega
        exact ⟨rfl, by simpa [rowsOf] using hk.symm⟩
    rcases hidx i a ha with ⟨ha', _⟩ | ⟨rfl, rfl⟩
    · rcases hidx j b hb' with ⟨hb'', _⟩ | ⟨rfl, rfl⟩
      · exact h.sep i j a b ha' hb'' hij g hg hgb
      · have : g = qb := by simpa [blkV, Value.ownBlock] using hgb.symm
        subst this
        exact hnew a (List.mem_of_getElem? ha') hg
    · have : g = qb := by simpa [blkV, Value.ownBlock] using hg.symm
      subst this
      rcases hidx j b hb' with ⟨hb'', _⟩ | ⟨rfl, _⟩
      · exact hnew b (List.mem_of_getElem? hb'') hgb
      · exact hij rfl
  · intro v hv g hg
    rcases hmem v hv with h0 | rfl
    · exact h2.lies v h0 g hg
    · have : g = qb := by simpa [blkV, Value.ownBlock] using hg.symm
      subst this; omega
  · intro v hv g hg
    rcases hmem v hv with h0 | rfl
    · exact h.old v h0 g hg
    · have : g = qb := by simpa [blkV, Value.ownBlock] using hg.symm
      subst this; have := h.fr.size; right; omega
  · obtain ⟨pl, pc, hp1, hp2⟩ := h2.pos
    exact ⟨pl, pc, hp1, fun e => by cases e⟩
  · intro q hq
    simp at hq
    subst hq
    exact hc

/-- The quoted field is done. -/
theorem St.dropq (h : St w0 rows0 w N s P ea fpr nl raw rec fi fp last pb qs bytes idx cnt rl) (hc : 0 < cnt) : St w0 rows0 w N s P ea fpr nl raw rec fi fp last pb [] bytes idx cnt rl := by
  have hsub : ∀ (k : Nat) (v : Value), (rowsOf raw rec fi fp last pb [])[k]? = some v → (rowsOf raw rec fi fp last pb qs)[k]? = some v := by
    intro k v hk
    have := (List.getElem?_eq_some_iff.1 hk).1
    simp [rowsOf] at this
    rw [rowsOf, List.getElem?_append_left (by simpa using this)] at hk ⊢
    exact hk
  have hmem : ∀ v, v ∈ rowsOf raw rec fi fp last pb [] → v ∈ rowsOf raw rec fi fp last pb qs := fun v hv => by
    obtain ⟨k, hk⟩ := List.getElem?_of_mem hv
    exact List.mem_of_getElem? (hsub k v hk)
  obtain ⟨pl, pc, hp1, hp2⟩ := h.pos
  exact ⟨h.rd, h.rrec, h.rfi, h.rfp, h.rlast, fun i j a b ha hb => h.sep i j a b (hsub i a ha) (hsub j b hb), fun v hv => h.lies v (hmem v hv), h.fr, fun v hv => h.old v (hmem v hv), ⟨pl, pc, hp1, fun _ e => by omega⟩, by simp⟩

/-- The line's bytes behind a write into a row that is not the raw buffer, or into pos. -/
theorem St.line_keep (h : St w0 rows0 w N s P ea fpr nl raw rec fi fp last pb qs bytes idx cnt rl) {w2 : World} {X : Value} {i : Nat} (hX : (rowsOf raw rec fi fp last pb qs)[i]? = some X) (hi : i ≠ 0) (hF : Fr (fun k => k = N + 3 ∨ X.ownBlock = some k) w w2) {g o c : Nat} {l : List UInt8} (hl : LineAt w N raw g o c l) : LineAt w2 N raw g o c l := by
  refine hl.fr hF (fun hne => ?_)
  rintro (e | e)
  · rcases hl.blk hne with h0 | h0
    · omega
    · have := (h.lies raw (by simp [rowsOf]) g h0).1; omega
  · rcases hl.blk hne with h0 | h0
    · have := (h.lies X (List.mem_of_getElem? hX) g e).1; omega
    · exact h.sep i 0 X raw hX rfl hi g e h0

theorem LineAt.below {w2 : World} {g o c : Nat} {l : List UInt8} (hl : LineAt w N raw g o c l) (hb : Below w.heap.size w w2) : LineAt w2 N raw g o c l := hl.fr (S := fun _ => False) (Fr.of_below hb) (fun _ e => e)

/-- A reslice of the line. -/
theorem LineAt.drop {g o c : Nat} {l : List UInt8} (hl : LineAt w N raw g o c l) (k : Nat) (hk : k ≤ l.length) : ∃ o', (if c = k then some (⟨g, o, none⟩ : Addr) else some ⟨g, o + k, none⟩) = some ⟨g, o', none⟩ ∧ LineAt w N raw g o' (c - k) (l.drop k) := by
  have hcap := hl.cap
  by_cases hc : c = k
  · refine ⟨o, by rw [if_pos hc], by rw [List.length_drop]; omega, ?_, ?_⟩
    · rw [List.drop_of_length_le (by omega)]; intro j b hj; simp at hj
    · rw [List.drop_of_length_le (by omega)]; intro hne; exact absurd rfl hne
  · refine ⟨o + k, by rw [if_neg hc], by rw [List.length_drop]; omega, fun j b hj => ?_, fun hne => hl.blk (fun e => hne (by rw [e]; simp))⟩
    rw [List.getElem?_drop] at hj
    obtain ⟨g', o', h1, h2⟩ := hl.bytes (k + j) b hj
    cases h1
    exact ⟨g, o + k, rfl, by rw [Nat.add_assoc]; exact h2⟩
end
end Go.Proofs.Qxb6612546aFmt
