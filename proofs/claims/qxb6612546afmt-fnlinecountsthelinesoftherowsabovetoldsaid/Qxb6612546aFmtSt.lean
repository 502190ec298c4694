import Derived.Test.Qxb6612546aFmtSmall
namespace Go.Proofs.Qxb6612546aFmt
open Go.RowKit

def intV (k : Nat) : Value := .int .i64 k

/-- No two of the values own one block. -/
def Sep (rows : List Value) : Prop := ∀ (i j : Nat) (a b : Value), rows[i]? = some a → rows[j]? = some b → i ≠ j → ∀ g, a.ownBlock = some g → b.ownBlock ≠ some g

/-- All their blocks lie between lo and hi. -/
def Lies (lo hi : Nat) (rows : List Value) : Prop := ∀ v ∈ rows, ∀ g, v.ownBlock = some g → lo ≤ g ∧ g < hi

theorem Sep.set {rows : List Value} (h : Sep rows) {lo hi : Nat} (hL : Lies lo hi rows) (i : Nat) (v v' : Value) (hi' : rows[i]? = some v) (hv : v'.ownBlock = v.ownBlock ∨ ∃ g, v'.ownBlock = some g ∧ hi ≤ g) : Sep (rows.set i v') := by
  have hlt : i < rows.length := (List.getElem?_eq_some_iff.1 hi').1
  intro j k a b ha hb hjk g hg
  rw [List.getElem?_set] at ha hb
  by_cases h1 : i = j
  · subst h1
    rw [if_neg hjk] at hb
    simp [hlt] at ha
    subst ha
    rcases hv with e | ⟨g', e, hge⟩
    · exact h i k v b hi' hb hjk g (e ▸ hg)
    · intro hb'
      have := (hL b (List.mem_of_getElem? hb) g hb').2
      rw [hg] at e; simp at e; omega
  · rw [if_neg h1] at ha
    by_cases h2 : i = k
    · subst h2
      simp [hlt] at hb
      subst hb
      rcases hv with e | ⟨g', e, hge⟩
      · rw [e]; exact h j i a v ha hi' hjk g hg
      · rw [e]
        have := (hL a (List.mem_of_getElem? ha) g hg).2
        intro e'; simp at e'; omega
    · rw [if_neg h2] at hb
      exact h j k a b ha hb hjk g hg

theorem Lies.set {rows : List Value} {lo hi hi2 : Nat} (hL : Lies lo hi rows) (hh : hi ≤ hi2) (i : Nat) (v' : Value) (hv : ∀ g, v'.ownBlock = some g → lo ≤ g ∧ g < hi2) : Lies lo hi2 (rows.set i v') := by
  intro v hm g hg
  rcases List.mem_or_eq_of_mem_set hm with h0 | h0
  · have := hL v h0 g hg; omega
  · rw [h0] at hg; exact hv g hg

theorem Lies.mono {rows : List Value} {lo hi hi2 : Nat} (hL : Lies lo hi rows) (hh : hi ≤ hi2) : Lies lo hi2 rows := fun v hv g hg => by have := hL v hv g hg; omega

/-- A block as a value that owns it. -/
def blkV (g : Nat) : Value := .slice (some ⟨g, 0, none⟩) 0 0

/-- Where a record's fields end in the one buffer. -/
def ends : Nat → List (List UInt8) → List Nat
  | _, [] => []
  | a, f :: r => (a + f.length) :: ends (a + f.length) r

theorem ends_length : ∀ (a : Nat) (fs : List (List UInt8)), (ends a fs).length = fs.length
  | _, [] => rfl
  | a, f :: r => by simp [ends, ends_length _ r]

theorem ends_append : ∀ (a : Nat) (fs : List (List UInt8)) (f : List UInt8), ends a (fs ++ [f]) = ends a fs ++ [a + (fs ++ [f]).flatten.length]
  | a, [], f => by simp [ends]
  | a, e :: r, f => by
    rw [List.cons_append, ends, ends_append _ r f, ends]
    simp
    omega

theorem own_or {v v' : Value} {hi : Nat} (hwh : v'.ownBlock = v.ownBlock ∨ v'.ownBlock = some hi) : v'.ownBlock = v.ownBlock ∨ ∃ g, v'.ownBlock = some g ∧ hi ≤ g := by
  rcases hwh with h | h
  · exact .inl h
  · exact .inr ⟨hi, h, Nat.le_refl _⟩

/-- What may be written by one call of readRecord. -/
def OwnS (N : Nat) (rows : List Value) (k : Nat) : Prop := (N ≤ k ∧ k ≤ N + 3) ∨ ∃ v ∈ rows, v.ownBlock = some k

/-- The rows of the reader. -/
def rowsOf (raw rec fi fp last : Value) (pb : Nat) (qs : List Nat) : List Value := [raw, rec, fi, fp, last, blkV pb] ++ qs.map blkV

/-- The reader in the middle of a record. w0: the world at the call; rows0: its rows then; pb: the block of pos; qs: that of fieldPos, while a quoted field is read. -/
structure St (w0 : World) (rows0 : List Value) (w : World) (N : Nat) (s : ByteArray) (P : List UInt8) (ea : Addr) (fpr : Int) (nl : Nat) (raw rec fi fp last : Value) (pb : Nat) (qs : List Nat) (bytes : List UInt8) (idx : List Nat) (cnt rl : Nat) : Prop where
  rd : RdS w N s P ea fpr nl raw rec fi fp last
  rrec : w.ownsRow (N + 4) 5 1 rec bytes.length (bytes.map byteV)
  rfi : w.ownsRow (N + 4) 3 1 fi idx.length (idx.map intV)
  rfp : ∃ cells, w.ownsRow (N + 4) 82 2 fp cnt cells ∧ (0 < cnt → cells[0]? = some (intV rl))
  rlast : ∃ k xs, w.ownsRow (N + 4) 9 1 last k xs
  sep : Sep (rowsOf raw rec fi fp last pb qs)
  lies : Lies (N + 4) w.heap.size (rowsOf raw rec fi fp last pb qs)
  fr : Fr (OwnS N rows0) w0 w
  old : ∀ v ∈ rowsOf raw rec fi fp last pb qs, ∀ g, v.ownBlock = some g → (∃ v0 ∈ rows0, v0.ownBlock = some g) ∨ w0.heap.size ≤ g
  pos : ∃ (pl pc : Int), w.heap[pb]? = some (.cells #[.int .i64 pl, .int .i64 pc] 82 (0, 0)) ∧ (qs = [] → cnt = 0 → pl = rl)
  qos : ∀ qb ∈ qs, ∃ (pl pc : Int), w.heap[qb]? = some (.cells #[.int .i64 pl, .int .i64 pc] 82 (0, 0)) ∧ (cnt = 0 → pl = rl)

section
variable {w0 : World} {rows0 : List Value} {w : World} {N : Nat} {s : ByteArray} {P : List UInt8} {ea : Addr} {fpr : Int} {nl : Nat} {raw rec fi fp last : Value} {pb : Nat} {qs : List Nat} {bytes : List UInt8} {idx : List Nat} {cnt rl : Nat}

theorem own_row_lies {e sz n : Nat} {v : Value} {xs : List Value} (h : w.ownsRow (N + 4) e sz v n xs) : ∀ g, v.ownBlock = some g → N + 4 ≤ g ∧ g < w.heap.size := fun g hg => h.lt g hg

/-- All but the csv struct and the row number i stays. -/
theorem St.keep (h : St w0 rows0 w N s P ea fpr nl raw rec fi fp last pb qs bytes idx cnt rl) {w2 : World} {X : Value} {i : Nat} (hX : (rowsOf raw rec fi fp last pb qs)[i]? = some X) (hF : Fr (fun k => k = N + 3 ∨ X.ownBlock = some k) w w2) :
    (∀ (j : Nat) (Y : Value) (e sz n : Nat) (xs : List Value), (rowsOf raw rec fi fp last pb qs)[j]? = some Y → j ≠ i → w.ownsRow (N + 4) e sz Y n xs → w2.ownsRow (N + 4) e sz Y n xs) ∧
    (∀ (j b : Nat) (o : Obj), (rowsOf raw rec fi fp last pb qs)[j]? = some (blkV b) → j ≠ i → w.heap[b]? = some o → w2.heap[b]? = some o) ∧
    (∀ (a b c : Nat) (e : Value) (bs : List UInt8) (pr lb lr : Int), Buf w N s a b c e bs pr lb lr → Buf w2 N s a b c e bs pr lb lr) := by
  refine ⟨fun j Y e sz n xs hY hj ho => ?_, fun j b o hb hj ho => ?_, fun a b c e bs pr lb lr hB => ?_⟩
  · refine Fr.own ho hF (fun g hg => ?_)
    rintro (e1 | e1)
    · have := (ho.lt g hg).1; omega
    · exact h.sep i j X Y hX hY (fun e => hj e.symm) g e1 hg
  · refine hF.heap ho ?_
    rintro (e1 | e1)
    · have := (h.lies (blkV b) (List.mem_of_getElem? hb) b rfl).1; omega
    · exact h.sep i j X (blkV b) hX hb (fun e => hj e.symm) b e1 rfl
  · refine hB.fr hF (fun k hk => ?_)
    rintro (e1 | e1)
    · simp [BufS] at hk; omega
    · have := (h.lies X (List.mem_of_getElem? hX) k e1).1; simp [BufS] at hk; omega

/-- The frame grows by what the step may write. -/
theorem St.frame (h : St w0 rows0 w N s P ea fpr nl raw rec fi fp last pb qs bytes idx cnt rl) {w2 : World} {X : Value} {i : Nat} (hX : (rowsOf raw rec fi fp last pb qs)[i]? = some X) (hF : Fr (fun k => k = N + 3 ∨ X.ownBlock = some k) w w2) : Fr (OwnS N rows0) w0 w2 := by
  refine h.fr.trans hF (fun k hk hs => ?_)
  rcases hs with e | e
  · exact .inl (by omega)
  · rcases h.old X (List.mem_of_getElem? hX) k e with h0 | h0
    · exact .inr h0
    · omega

theorem St.old_set (h : St w0 rows0 w N s P ea fpr nl raw rec fi fp last pb qs bytes idx cnt rl) {X X' : Value} {i : Nat} (hX : (rowsOf raw rec fi fp last pb qs)[i]? = some X) (hn : X'.ownBlock = X.ownBlock ∨ ∃ g, X'.ownBlock = some g ∧ w.heap.size ≤ g) :
    ∀ v ∈ (rowsOf raw rec fi fp last pb qs).set i X', ∀ g, v.ownBlock = some g → (∃ v0 ∈ rows0, v0.ownBlock = some g) ∨ w0.heap.size ≤ g := by
  intro v hv g hg
  rcases List.mem_or_eq_of_mem_set hv with h0 | h0
  · exact h.old v h0 g hg
  · subst h0
    rcases hn with e | ⟨g', e, hge⟩
    · exact h.old X (List.mem_of_getElem? hX) g (e ▸ hg)
    · rw [hg] at e; simp at e; have := h.fr.size; right; omega

theorem rows_at5 : (rowsOf raw rec fi fp last pb qs)[5]? = some (blkV pb) := rfl

theorem rows_q {j qb : Nat} (h : qs[j]? = some qb) : (rowsOf raw rec fi fp last pb qs)[6 + j]? = some (blkV qb) := by
  rw [rowsOf, List.getElem?_append_right (by simp), show 6 + j - [raw, rec, fi, fp, last, blkV pb].length = j by simp, List.getElem?_map, h]
  rfl

/-- Bytes are appended to the record's buffer. -/
theorem St.app_rec (h : St w0 rows0 w N s P ea fpr nl raw rec fi fp last pb qs bytes idx cnt rl) {w1 : World} {v' : Value} (l : List UInt8) (hown : w1.ownsRow (N + 4) 5 1 v' (bytes ++ l).length ((bytes ++ l).map byteV))
    (hF : Fr (fun k => rec.ownBlock = some k) w w1) (hn : v'.ownBlock = rec.ownBlock ∨ ∃ g, v'.ownBlock = some g ∧ w.heap.size ≤ g) : St w0 rows0 (w1.setCell ⟨N + 3, 11, none⟩ v') N s P ea fpr nl raw v' fi fp last pb qs (bytes ++ l) idx cnt rl := by
  have hfs := fr_setCell w1 (N + 3) 11 v'
  have hF2 : Fr (fun k => k = N + 3 ∨ rec.ownBlock = some k) w (w1.setCell ⟨N + 3, 11, none⟩ v') := (hF.mono fun _ _ h => .inr h).trans hfs (fun _ _ h => .inl h)
  obtain ⟨k1, k2, k3⟩ := h.keep (i := 1) rfl hF2
  obtain ⟨i, r, n, e, bs, pr, lb, lr, off, m, xs, hR⟩ := h.rd
  have hv := own_row_lies hown
  have hsz : w1.heap.size = (w1.setCell ⟨N + 3, 11, none⟩ v').heap.size := by simp [World.setCell]
  have hc : Csv w1 N fpr nl off raw rec fi fp last := hR.csv.fr hF (fun e => by have := (h.lies rec (by simp [rowsOf]) _ e).1; omega)
  obtain ⟨cells, hfp1, hfp2⟩ := h.rfp
  obtain ⟨lk, ls, hls⟩ := h.rlast
  obtain ⟨pl, pc, hp1, hp2⟩ := h.pos
  refine ⟨⟨i, r, n, e, bs, pr, lb, lr, off, m, xs, k3 _ _ _ _ _ _ _ _ hR.buf, hR.err, hR.pnd, hc.set_rec v', k1 0 raw _ _ _ _ rfl (by omega) hR.row⟩, Fr.own hown hfs (fun g hg => by have := (hv g hg).1; omega), k1 2 fi _ _ _ _ rfl (by omega) h.rfi,
    ⟨cells, k1 3 fp _ _ _ _ rfl (by omega) hfp1, hfp2⟩, ⟨lk, ls, k1 4 last _ _ _ _ rfl (by omega) hls⟩, h.sep.set h.lies 1 rec v' rfl hn, ?_, h.frame (i := 1) rfl hF2, h.old_set (i := 1) rfl hn, ⟨pl, pc, k2 5 pb _ rfl (by omega) hp1, hp2⟩, ?_⟩
  · rw [← hsz]; exact h.lies.set hF.size 1 v' hv
  · intro qb hq
    obtain ⟨j, hj⟩ := List.getElem?_of_mem hq
    obtain ⟨ql, qc, hq1, hq2⟩ := h.qos qb hq
    exact ⟨ql, qc, k2 (6 + j) qb _ (rows_q hj) (by omega) hq1, hq2⟩

/-- A field's end is appended. -/
theorem St.app_fi (h : St w0 rows0 w N s P ea fpr nl raw rec fi fp last pb qs bytes idx cnt rl) {w1 : World} {v' : Value} (x : Nat) (hown : w1.ownsRow (N + 4) 3 1 v' (idx ++ [x]).length ((idx ++ [x]).map intV))
    (hF : Fr (fun k => fi.ownBlock = some k) w w1) (hn : v'.ownBlock = fi.ownBlock ∨ ∃ g, v'.ownBlock = some g ∧ w.heap.size ≤ g) : St w0 rows0 (w1.setCell ⟨N + 3, 12, none⟩ v') N s P ea fpr nl raw rec v' fp last pb qs bytes (idx ++ [x]) cnt rl := by
  have hfs := fr_setCell w1 (N + 3) 12 v'
  have hF2 : Fr (fun k => k = N + 3 ∨ fi.ownBlock = some k) w (w1.setCell ⟨N + 3, 12, none⟩ v') := (hF.mono fun _ _ h => .inr h).trans hfs (fun _ _ h => .inl h)
  obtain ⟨k1, k2, k3⟩ := h.keep (i := 2) rfl hF2
  obtain ⟨i, r, n, e, bs, pr, lb, lr, off, m, xs, hR⟩ := h.rd
  have hv := own_row_lies hown
  have hsz : w1.heap.size = (w1.setCell ⟨N + 3, 12, none⟩ v').heap.size := by simp [World.setCell]
  have hc : Csv w1 N fpr nl off raw rec fi fp last := hR.csv.fr hF (fun e => by have := (h.lies fi (by simp [rowsOf]) _ e).1; omega)
  obtain ⟨cells, hfp1, hfp2⟩ := h.rfp
  obtain ⟨lk, ls, hls⟩ := h.rlast
  obtain ⟨pl, pc, hp1, hp2⟩ := h.pos
  refine ⟨⟨i, r, n, e, bs, pr, lb, lr, off, m, xs, k3 _ _ _ _ _ _ _ _ hR.buf, hR.err, hR.pnd, hc.set_fi v', k1 0 raw _ _ _ _ rfl (by omega) hR.row⟩, k1 1 rec _ _ _ _ rfl (by omega) h.rrec, Fr.own hown hfs (fun g hg => by have := (hv g hg).1; omega),
    ⟨cells, k1 3 fp _ _ _ _ rfl (by omega) hfp1, hfp2⟩, ⟨lk, ls, k1 4 last _ _ _ _ rfl (by omega) hls⟩, h.sep.set h.lies 2 fi v' rfl hn, ?_, h.frame (i := 2) rfl hF2, h.old_set (i := 2) rfl hn, ⟨pl, pc, k2 5 pb _ rfl (by omega) hp1, hp2⟩, ?_⟩
  · rw [← hsz]; exact h.lies.set hF.size 2 v' hv
  · intro qb hq
    obtain ⟨j, hj⟩ := List.getElem?_of_mem hq
    obtain ⟨ql, qc, hq1, hq2⟩ := h.qos qb hq
    exact ⟨ql, qc, k2 (6 + j) qb _ (rows_q hj) (by omega) hq1, hq2⟩

/-- A field's place is appended. -/
theorem St.app_fp (h : St w0 rows0 w N s P ea fpr nl raw rec fi fp last pb qs bytes idx cnt rl) {w1 : World} {v' : Value} {cells : List Value} (pl pc : Int) (hc1 : 0 < cnt → cells[0]? = some (intV rl)) (hl : cells.length = cnt * 2) (hp : cnt = 0 → pl = rl)
    (hown : w1.ownsRow (N + 4) 82 2 v' (cnt + 1) (cells ++ [.int .i64 pl, .int .i64 pc]))
    (hF : Fr (fun k => fp.ownBlock = some k) w w1) (hn : v'.ownBlock = fp.ownBlock ∨ ∃ g, v'.ownBlock = some g ∧ w.heap.size ≤ g) : St w0 rows0 (w1.setCell ⟨N + 3, 13, none⟩ v') N s P ea fpr nl raw rec fi v' last pb qs bytes idx (cnt + 1) rl := by
  have hfs := fr_setCell w1 (N + 3) 13 v'
  have hF2 : Fr (fun k => k = N + 3 ∨ fp.ownBlock = some k) w (w1.setCell ⟨N + 3, 13, none⟩ v') := (hF.mono fun _ _ h => .inr h).trans hfs (fun _ _ h => .inl h)
  obtain ⟨k1, k2, k3⟩ := h.keep (i := 3) rfl hF2
  obtain ⟨i, r, n, e, bs, pr, lb, lr, off, m, xs, hR⟩ := h.rd
  have hv := own_row_lies hown
  have hsz : w1.heap.size = (w1.setCell ⟨N + 3, 13, none⟩ v').heap.size := by simp [World.setCell]
  have hc : Csv w1 N fpr nl off raw rec fi fp last := hR.csv.fr hF (fun e => by have := (h.lies fp (by simp [rowsOf]) _ e).1; omega)
  obtain ⟨lk, ls, hls⟩ := h.rlast
  obtain ⟨pl', pc', hp1, hp2⟩ := h.pos
  refine ⟨⟨i, r, n, e, bs, pr, lb, lr, off, m, xs, k3 _ _ _ _ _ _ _ _ hR.buf, hR.err, hR.pnd, hc.set_fp v', k1 0 raw _ _ _ _ rfl (by omega) hR.row⟩, k1 1 rec _ _ _ _ rfl (by omega) h.rrec, k1 2 fi _ _ _ _ rfl (by omega) h.rfi,
    ⟨_, Fr.own hown hfs (fun g hg => by have := (hv g hg).1; omega), ?_⟩, ⟨lk, ls, k1 4 last _ _ _ _ rfl (by omega) hls⟩, h.sep.set h.lies 3 fp v' rfl hn, ?_, h.frame (i := 3) rfl hF2, h.old_set (i := 3) rfl hn, ⟨pl', pc', k2 5 pb _ rfl (by omega) hp1, fun _ h0 => by omega⟩, ?_⟩
  · intro _
    by_cases h0 : cnt = 0
    · have : cells = [] := List.eq_nil_of_length_eq_zero (by omega)
      rw [this, hp h0]; rfl
    · rw [List.getElem?_append_left (by omega)]; exact hc1 (by omega)
  · rw [← hsz]; exact h.lies.set hF.size 3 v' hv
  · intro qb hq
    obtain ⟨j, hj⟩ := List.getElem?_of_mem hq
    obtain ⟨ql, qc, hq1, hq2⟩ := h.qos qb hq
    exact ⟨ql, qc, k2 (6 + j) qb _ (rows_q hj) (by omega) hq1, fun h0 => by omega⟩
end
end Go.Proofs.Qxb6612546aFmt
