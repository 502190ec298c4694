import Derived.Test.Qxb6612546aFmtRecR
namespace Go.Proofs.Qxb6612546aFmt
open Go.RowKit

/-- The row of strings that is handed out, and all else. -/
structure Dst (w0 : World) (rows0 : List Value) (w : World) (N : Nat) (s : ByteArray) (P : List UInt8) (ea : Addr) (fpr : Int) (nl : Nat) (raw rec fi fp last dv : Value) (bytes : List UInt8) (idx : List Nat) (cnt rl : Nat) : Prop where
  rd : RdS w N s P ea fpr nl raw rec fi fp last
  rrec : w.ownsRow (N + 4) 5 1 rec bytes.length (bytes.map byteV)
  rfi : w.ownsRow (N + 4) 3 1 fi idx.length (idx.map intV)
  rfp : ∃ cells, w.ownsRow (N + 4) 82 2 fp cnt cells ∧ (0 < cnt → cells[0]? = some (intV rl))
  sep : Sep [raw, rec, fi, fp, dv]
  lies : Lies (N + 4) w.heap.size [raw, rec, fi, fp, dv]
  fr : Fr (OwnS N rows0) w0 w
  old : ∀ v ∈ [raw, rec, fi, fp, dv], ∀ g, v.ownBlock = some g → (∃ v0 ∈ rows0, v0.ownBlock = some g) ∨ w0.heap.size ≤ g

section
variable {w0 : World} {rows0 : List Value} {w : World} {N : Nat} {s : ByteArray} {P : List UInt8} {ea : Addr} {fpr : Int} {nl : Nat} {raw rec fi fp last dv : Value} {pb : Nat} {qs : List Nat} {bytes : List UInt8} {idx : List Nat} {cnt rl : Nat}

/-- The old row of strings, cut anew. -/
theorem St.dst (h : St w0 rows0 w N s P ea fpr nl raw rec fi fp last pb qs bytes idx cnt rl) (hd : dv.ownBlock = last.ownBlock) : Dst w0 rows0 w N s P ea fpr nl raw rec fi fp last dv bytes idx cnt rl := by
  have hsub : ∀ (k : Nat) (v : Value), [raw, rec, fi, fp, last][k]? = some v → (rowsOf raw rec fi fp last pb qs)[k]? = some v := by
    intro k v hk
    have := (List.getElem?_eq_some_iff.1 hk).1
    simp at this
    rw [rowsOf, List.getElem?_append_left (by simp; omega)]
    rw [show [raw, rec, fi, fp, last, blkV pb] = [raw, rec, fi, fp, last] ++ [blkV pb] from rfl, List.getElem?_append_left (by simpa using this)]
    exact hk
  have hmem : ∀ v, v ∈ [raw, rec, fi, fp, last] → v ∈ rowsOf raw rec fi fp last pb qs := fun v hv => by
    obtain ⟨k, hk⟩ := List.getElem?_of_mem hv
    exact List.mem_of_getElem? (hsub k v hk)
  have e : [raw, rec, fi, fp, dv].map Value.ownBlock = [raw, rec, fi, fp, last].map Value.ownBlock := by simp [hd]
  have hs5 : Sep [raw, rec, fi, fp, last] := fun i j a b ha hb => h.sep i j a b (hsub i a ha) (hsub j b hb)
  have hl5 : Lies (N + 4) w.heap.size [raw, rec, fi, fp, last] := fun v hv => h.lies v (hmem v hv)
  refine ⟨h.rd, h.rrec, h.rfi, h.rfp, hs5.congr e, hl5.congr e, h.fr, fun v hv g hg => ?_⟩
  have h1 : some g ∈ [raw, rec, fi, fp, dv].map Value.ownBlock := List.mem_map.2 ⟨v, hv, hg⟩
  rw [e] at h1
  obtain ⟨x, hx, hxg⟩ := List.mem_map.1 h1
  exact h.old x (hmem x hx) g hxg

/-- A new row of strings. -/
theorem St.dst_new (h : St w0 rows0 w N s P ea fpr nl raw rec fi fp last pb qs bytes idx cnt rl) {w1 : World} (hg : w.grownBy w1 none) {g : Nat} (hdv : dv.ownBlock = some g) (hge : w.heap.size ≤ g) (hlt : g < w1.heap.size) : Dst w0 rows0 w1 N s P ea fpr nl raw rec fi fp last dv bytes idx cnt rl := by
  have hb : Below w.heap.size w w1 := (Below.refl _ w).grown hg (Nat.le_refl _) (by simp)
  have h1 := (h.below hb).dst (dv := last) rfl
  have h0 := h.dst (dv := last) rfl
  have hN := (R0.bound h.rd).2
  refine ⟨h1.rd, h1.rrec, h1.rfi, h1.rfp, h0.sep.set h0.lies 4 last dv rfl (.inr ⟨g, hdv, hge⟩), h0.lies.set hb.size 4 dv (fun k hk => by rw [hdv] at hk; simp at hk; omega), h1.fr, fun v hv k hk => ?_⟩
  rcases List.mem_or_eq_of_mem_set (show v ∈ [raw, rec, fi, fp, last].set 4 dv from hv) with h2 | h2
  · exact h0.old v h2 k hk
  · subst h2
    rw [hdv] at hk; simp at hk; have := h.fr.size; right; omega

/-- A string is laid into the row. -/
theorem Dst.put (h : Dst w0 rows0 w N s P ea fpr nl raw rec fi fp last dv bytes idx cnt rl) {g : Nat} (hg : dv.ownBlock = some g) (j : Nat) (u : Value) : Dst w0 rows0 (w.setCell ⟨g, j, none⟩ u) N s P ea fpr nl raw rec fi fp last dv bytes idx cnt rl := by
  have hF := fr_setCell w g j u
  have hgl := h.lies dv (by simp) g hg
  have hsz : w.heap.size = (w.setCell ⟨g, j, none⟩ u).heap.size := by simp [World.setCell]
  have key : ∀ (i : Nat) (Y : Value), [raw, rec, fi, fp, dv][i]? = some Y → i ≠ 4 → ∀ k, Y.ownBlock = some k → ¬ k = g := by
    intro i Y hY hi k hk e
    subst e
    exact h.sep 4 i dv Y rfl hY (fun e => hi e.symm) k hg hk
  obtain ⟨cells, h1, h2⟩ := h.rfp
  refine ⟨h.rd.fr hF (fun k h1 h2 e => by omega) (key 0 raw rfl (by omega)), Fr.own h.rrec hF (key 1 rec rfl (by omega)), Fr.own h.rfi hF (key 2 fi rfl (by omega)), ⟨cells, Fr.own h1 hF (key 3 fp rfl (by omega)), h2⟩, h.sep, by rw [← hsz]; exact h.lies, h.fr.trans hF (fun k hk e => ?_), h.old⟩
  subst e
  rcases h.old dv (by simp) k hg with h0 | h0
  · exact .inr h0
  · omega
theorem RdS.set_fpr (h : RdS w N s P ea fpr nl raw rec fi fp last) (x : Int) : RdS (w.setCell ⟨N + 3, 2, none⟩ (.int .i64 x)) N s P ea x nl raw rec fi fp last := by
  obtain ⟨i, r, n, e, bs, pr, lb, lr, off, m, xs, hR⟩ := h
  have hF := fr_setCell w (N + 3) 2 (.int .i64 x)
  exact ⟨i, r, n, e, bs, pr, lb, lr, off, m, xs, hR.buf.fr hF (by simp [BufS]), hR.err, hR.pnd, hR.csv.set_fpr x, Fr.own hR.row hF (fun g hg e => by have := (hR.row.lt g hg).1; omega)⟩

/-- The width of the records, noted. -/
theorem Dst.setfpr (h : Dst w0 rows0 w N s P ea fpr nl raw rec fi fp last dv bytes idx cnt rl) (x : Int) : Dst w0 rows0 (w.setCell ⟨N + 3, 2, none⟩ (.int .i64 x)) N s P ea x nl raw rec fi fp last dv bytes idx cnt rl := by
  have hF := fr_setCell w (N + 3) 2 (.int .i64 x)
  have hsz : w.heap.size = (w.setCell ⟨N + 3, 2, none⟩ (.int .i64 x)).heap.size := by simp [World.setCell]
  have key : ∀ {Y : Value} {e sz n : Nat} {xs : List Value}, w.ownsRow (N + 4) e sz Y n xs → ∀ k, Y.ownBlock = some k → ¬ k = N + 3 := fun ho k hk e => by have := (ho.lt k hk).1; omega
  obtain ⟨cells, h1, h2⟩ := h.rfp
  exact ⟨h.rd.set_fpr x, Fr.own h.rrec hF (key h.rrec), Fr.own h.rfi hF (key h.rfi), ⟨cells, Fr.own h1 hF (key h1), h2⟩, h.sep, by rw [← hsz]; exact h.lies, h.fr.trans hF (fun k hk e => .inl (by omega)), h.old⟩

theorem Dst.below (h : Dst w0 rows0 w N s P ea fpr nl raw rec fi fp last dv bytes idx cnt rl) {w2 : World} (hb : Below w.heap.size w w2) : Dst w0 rows0 w2 N s P ea fpr nl raw rec fi fp last dv bytes idx cnt rl := by
  have hF : Fr (fun _ => False) w w2 := Fr.of_below hb
  obtain ⟨cells, h1, h2⟩ := h.rfp
  exact ⟨h.rd.fr hF (fun _ _ _ e => e) (fun _ _ e => e), Fr.own h.rrec hF (fun _ _ e => e), Fr.own h.rfi hF (fun _ _ e => e), ⟨cells, Fr.own h1 hF (fun _ _ e => e), h2⟩, h.sep, h.lies.mono hb.size, h.fr.trans hF (fun _ _ e => e.elim), h.old⟩

/-- The end: what the caller is told. -/
theorem Dst.post {P0 : List UInt8} {nl0 : Nat} {raw0 rec0 fi0 fp0 lst0 : Value} {fpr0 : Int} {fs : List (List UInt8)} {ev : Value} {ys : List Value} {n c : Nat} {a : Option Addr} (h : Dst w0 [raw0, rec0, fi0, fp0, lst0] w N s P ea fpr nl raw rec fi fp lst0 (.slice a n c) fs.flatten (ends 0 fs) fs.length rl) (hn : n = fs.length)
    (hown : w.ownsRow (N + 4) 9 1 (.slice a n c) n (fillS fs ys n)) (hys : ys.length = fs.length) (hpos : 0 < fs.length) (hB : nl + P.length ≤ nl0 + P0.length)
    (hM : Cs.mach 4 [] [] 0 (nl0 + 1) (Cs.norm P0) = ((fs, rl) :: (Cs.mach 4 [] [] 0 (nl + 1) (Cs.norm P)).1, (Cs.mach 4 [] [] 0 (nl + 1) (Cs.norm P)).2))
    (hev : (fpr0 = 0 ∧ fpr = fs.length ∧ ev = .nilIface) ∨ (fpr0 ≠ 0 ∧ fpr = fpr0 ∧ ((fs.length = fpr0 ∧ ev = .nilIface) ∨ ((fs.length : Int) ≠ fpr0 ∧ ∃ p, ev = .iface 98 (.pointer (some p)))))) :
    RecPost N s P0 ea fpr0 nl0 raw0 rec0 fi0 fp0 lst0 lst0 w0 (.returned (.tuple #[.slice a n c, ev])) w := by
  obtain ⟨cells, h1, h2⟩ := h.rfp
  subst hn
  have hfill : fillS fs ys fs.length = (strsOf fs).map Value.string := by
    unfold fillS strsOf
    rw [List.take_length, List.drop_of_length_le (by omega), List.append_nil, List.map_map]
    rfl
  refine ⟨_, _, _, _, _, rfl, rfl, h.fr, h.rd.csv, .inr (.inr ⟨fs, rl, P, nl, fpr, raw, rec, fi, fp, cells, hM, hpos, ⟨h.rd, ⟨_, _, h.rrec⟩, ⟨_, _, h.rfi⟩, ⟨_, _, h1⟩, ⟨_, _, hown⟩, h.sep, h.lies⟩, h.old, ?_, h1, h2 hpos, hB, hev⟩)⟩
  rw [← hfill]; exact hown
end
end Go.Proofs.Qxb6612546aFmt
