import Derived.Test.Qxb6612546aFmtLine
import Derived.LaidEql
namespace Go.Proofs.Qxb6612546aFmt
open Go.RowKit

/-- The package-level variables on the road: io.EOF, bufio.ErrBufferFull; csv's errors hold something. -/
structure Glob (w : World) (N : Nat) (ea fa : Addr) : Prop where
  eof : w.cell? ⟨0, 0, none⟩ = some (.iface 84 (.pointer (some ea)))
  full : w.cell? ⟨5, 0, none⟩ = some (.iface 84 (.pointer (some fa)))
  he : ∃ ca ta, w.heap[ea.block]? = some (.cells ca ta (0, 0))
  hf : ∃ ca ta, w.heap[fa.block]? = some (.cells ca ta (0, 0))
  ne : ea ≠ fa
  e2 : ∃ a, w.cell? ⟨2, 0, none⟩ = some (.iface 84 (.pointer (some a)))
  e3 : ∃ a, w.cell? ⟨3, 0, none⟩ = some (.iface 84 (.pointer (some a)))
  e4 : ∃ a, w.cell? ⟨4, 0, none⟩ = some (.iface 84 (.pointer (some a)))
  lt : 5 < N ∧ ea.block < N ∧ fa.block < N

theorem Glob.below {w w' : World} {N : Nat} {ea fa : Addr} (h : Glob w N ea fa) (hb : Below N w w') : Glob w' N ea fa := by
  have h1 := h.lt
  have hc : ∀ k v, k < 6 → w.cell? ⟨k, 0, none⟩ = some v → w'.cell? ⟨k, 0, none⟩ = some v := fun k v hk hv => by rw [hb.cell (p := ⟨k, 0, none⟩) (by show k < N; omega)]; exact hv
  obtain ⟨ca, ta, he⟩ := h.he
  obtain ⟨cb, tb, hf⟩ := h.hf
  obtain ⟨v2, e2⟩ := h.e2
  obtain ⟨v3, e3⟩ := h.e3
  obtain ⟨v4, e4⟩ := h.e4
  exact ⟨hc 0 _ (by omega) h.eof, hc 5 _ (by omega) h.full, ⟨ca, ta, by rw [hb.block _ h1.2.1]; exact he⟩, ⟨cb, tb, by rw [hb.block _ h1.2.2]; exact hf⟩, h.ne, ⟨v2, hc 2 _ (by omega) e2⟩, ⟨v3, hc 3 _ (by omega) e3⟩, ⟨v4, hc 4 _ (by omega) e4⟩, h1⟩

theorem Glob.fr {S : Nat → Prop} {w w' : World} {N : Nat} {ea fa : Addr} (h : Glob w N ea fa) (hf : Fr S w w') (hS : ∀ k, S k → N ≤ k) (hN : N ≤ w.heap.size) : Glob w' N ea fa :=
  h.below (hf.to_below (fun k hk hs => by have := hS k hs; omega) hN)

theorem Tryf.und33 : ∃ ms, Tryf.prog.underlying 33 = some (.interface ms) := ⟨_, Tryf.underlying33⟩
theorem Tryf.info84 : ∃ i, Tryf.prog.info? 84 = some i ∧ i.comparable = true := by
  have h : (Tryf.prog.info? 84).map (·.comparable) = some true := by kernel_rfl
  cases hi : Tryf.prog.info? 84 with
  | none => rw [hi] at h; cases h
  | some i => rw [hi] at h; exact ⟨i, rfl, by simpa using h⟩
theorem Tryf.info86 : ∃ i, Tryf.prog.info? 86 = some i ∧ i.size ≠ 0 := by
  have h : (Tryf.prog.info? 86).map (·.size) = some 1 := by kernel_rfl
  cases hi : Tryf.prog.info? 86 with
  | none => rw [hi] at h; cases h
  | some i => rw [hi] at h; exact ⟨i, rfl, by have : i.size = 1 := by simpa using h
                                              omega⟩

theorem eql_same (w : World) (a : Addr) : (binOp .eql 33 (.iface 84 (.pointer (some a))) (.iface 84 (.pointer (some a)))).run Tryf.prog w = .ok (.bool true) w := by
  obtain ⟨ms, h1⟩ := Tryf.und33
  obtain ⟨i, h2, h3⟩ := Tryf.info84
  obtain ⟨j, h4, _⟩ := Tryf.info86
  exact run_eql_iface_ptr_same w a h1 Tryf.underlying84 h2 h3 h4

theorem eql_nil (w : World) (a : Addr) : (binOp .eql 33 .nilIface (.iface 84 (.pointer (some a)))).run Tryf.prog w = .ok (.bool false) w := by
  obtain ⟨ms, h1⟩ := Tryf.und33
  exact run_eql_iface_nil_left w 84 _ h1

theorem Glob.eql_other {w : World} {N : Nat} {ea fa : Addr} (h : Glob w N ea fa) : (binOp .eql 33 (.iface 84 (.pointer (some ea))) (.iface 84 (.pointer (some fa)))).run Tryf.prog w = .ok (.bool false) w := by
  obtain ⟨ms, h1⟩ := Tryf.und33
  obtain ⟨i, h2, h3⟩ := Tryf.info84
  obtain ⟨j, h4, h5⟩ := Tryf.info86
  obtain ⟨ca, ta, he⟩ := h.he
  obtain ⟨cb, tb, hf⟩ := h.hf
  exact run_eql_iface_ptr_other w h1 Tryf.underlying84 h2 h3 h4 h5 h.ne he hf

theorem Glob.eql_other' {w : World} {N : Nat} {ea fa : Addr} (h : Glob w N ea fa) : (binOp .eql 33 (.iface 84 (.pointer (some fa))) (.iface 84 (.pointer (some ea)))).run Tryf.prog w = .ok (.bool false) w := by
  obtain ⟨ms, h1⟩ := Tryf.und33
  obtain ⟨i, h2, h3⟩ := Tryf.info84
  obtain ⟨j, h4, h5⟩ := Tryf.info86
  obtain ⟨ca, ta, he⟩ := h.he
  obtain ⟨cb, tb, hf⟩ := h.hf
  exact run_eql_iface_ptr_other w h1 Tryf.underlying84 h2 h3 h4 h5 h.ne.symm hf he

/-- A line, not yet normalised. -/
def LMid (N : Nat) (s : ByteArray) (P : List UInt8) (ea : Addr) (fpr : Int) (nl : Nat) (raw rec fi fp last : Value) (w : World) (lv ev : Value) (wr : World) : Prop :=
  ∃ (g o c : Nat) (l P' : List UInt8) (raw' : Value) (i r n : Nat) (e : Value) (bs : List UInt8) (pr lb lr off : Int) (m : Nat) (xs : List Value),
    lv = .slice (some ⟨g, o, none⟩) l.length c ∧ LineAt wr N raw' g o c l ∧ (l ≠ [] → (g = N + 2 ∧ o + l.length ≤ r) ∨ raw'.ownBlock = some g) ∧ Rd wr N s P' ea fpr nl raw' rec fi fp last i r n e bs pr lb lr off m xs ∧
    Fr (LineS N raw) w wr ∧ NewOr w raw raw' ∧ P = l ++ P' ∧ ((ev = .nilIface ∧ ∃ a, l = a ++ [10] ∧ (10 : UInt8) ∉ a) ∨ (ev = .iface 84 (.pointer (some ea)) ∧ (10 : UInt8) ∉ l ∧ P' = []))

/-- While the line is gathered out of full buffers. -/
def LLoop (N : Nat) (s : ByteArray) (P : List UInt8) (ea fa : Addr) (fpr : Int) (nl : Nat) (raw rec fi fp last : Value) (off : Int) (w : World) (k : Nat) (ev : Value) (wr : World) : Prop :=
  ∃ (g cap : Nat) (acc P' : List UInt8) (i r n : Nat) (e : Value) (bs : List UInt8) (pr lb lr : Int),
    0 < acc.length ∧ Rd wr N s P' ea fpr nl (.slice (some ⟨g, 0, none⟩) acc.length cap) rec fi fp last i r n e bs pr lb lr off acc.length (acc.map byteV) ∧ Fr (LineS N raw) w wr ∧ NewOr w raw (.slice (some ⟨g, 0, none⟩) acc.length cap) ∧ P = acc ++ P' ∧
    ((ev = .iface 84 (.pointer (some fa)) ∧ (10 : UInt8) ∉ acc ∧ P'.length + 1 ≤ k) ∨ (ev = .nilIface ∧ ∃ a, acc = a ++ [10] ∧ (10 : UInt8) ∉ a) ∨ (ev = .iface 84 (.pointer (some ea)) ∧ (10 : UInt8) ∉ acc ∧ P' = []))

theorem byteV_one (l : List UInt8) : ∀ u ∈ l.map byteV, u.oneCell' = true := by
  intro v hv
  obtain ⟨b, _, rfl⟩ := List.mem_map.1 hv
  rfl

theorem own_shape {w : World} {base e n : Nat} {v : Value} {xs : List Value} (h : w.ownsRow base e 1 v n xs) (hn : n ≠ 0) : ∃ g cap, v = .slice (some ⟨g, 0, none⟩) n cap ∧ base ≤ g ∧ n ≤ cap ∧ g < w.heap.size := by
  rcases h.2 with ⟨h0, h1⟩ | ⟨g, cap, cur, h0, h1, h2, h3, _⟩
  · exact absurd h1 hn
  · exact ⟨g, cap, h0, h1, h3, (Array.getElem?_eq_some_iff.1 h2).1⟩

theorem own_shape' {w : World} {base e n : Nat} {v : Value} {xs : List Value} (h : w.ownsRow base e 1 v n xs) : ∃ a c, v = .slice a n c := by
  rcases h.2 with ⟨h0, h1⟩ | ⟨g, cap, cur, h0, _⟩
  · exact ⟨none, 0, by rw [h0, h1]⟩
  · exact ⟨_, _, h0⟩

theorem bytes_news {w : World} {a : Addr} {l : List UInt8} (h : BytAt w (some a) l) : ∀ j u, (l.map byteV)[j]? = some u → w.cell? (a.add j) = some u := by
  intro j u hu
  rw [List.getElem?_map] at hu
  cases hlj : l[j]? with
  | none => rw [hlj] at hu; cases hu
  | some cc =>
    rw [hlj] at hu
    obtain ⟨b, o', h1, h2⟩ := h j cc hlj
    cases h1
    rw [addr_add, h2]; simpa using hu

/-- Behind an append to the raw buffer and its store. -/
theorem buf_grown {w1 w2 : World} {N : Nat} {s : ByteArray} {fpr nl : Int} {v rec fi fp last : Value} {i r n : Nat} {e : Value} {bs : List UInt8} {pr lb lr off : Int} {raw : Value} {m' : Nat} {ys : List Value} {ty : TypeId} {sz : Nat}
    (hB : Buf w1 N s i r n e bs pr lb lr) (hc : Csv w1 N fpr nl off raw rec fi fp last) (hr : w1.ownsRow (N + 4) ty sz v m' ys) (hg : w1.grownBy w2 v.ownBlock) :
    Buf w2 N s i r n e bs pr lb lr ∧ Csv w2 N fpr nl off raw rec fi fp last ∧ Fr (fun j => v.ownBlock = some j) w1 w2 := by
  have hf := fr_grown hg
  refine ⟨hB.fr hf (fun j hj h0 => ?_), hc.fr hf (fun h0 => ?_), hf⟩
  · have := (hr.lt _ h0).1; simp [BufS] at hj; omega
  · have := (hr.lt _ h0).1; omega

theorem own_bytes {w : World} {base g n cap : Nat} {l : List UInt8} (h : w.ownsRow base 5 1 (.slice (some ⟨g, 0, none⟩) n cap) n (l.map byteV)) : l.length ≤ cap ∧ BytAt w (some ⟨g, 0, none⟩) l := by
  have hl : l.length = n := by have := h.1; simpa using this
  refine ⟨?_, fun j c hj => ⟨g, 0, rfl, ?_⟩⟩
  · rcases h.2 with ⟨h0, _⟩ | ⟨g', cap', cur, h0, _, _, h1, _⟩
    · cases h0
    · cases h0; omega
  · have hlt := (List.getElem?_eq_some_iff.1 hj).1
    rw [Nat.zero_add, h.cellAt j (by omega), List.getElem?_map, hj]
    rfl

/-- The line behind the first step: a carriage return that ends the text is dropped. -/
def LMid2 (N : Nat) (s : ByteArray) (P : List UInt8) (ea : Addr) (fpr : Int) (nl : Nat) (raw rec fi fp last : Value) (w : World) (lv ev : Value) (wr : World) : Prop :=
  ∃ (g o c : Nat) (l P' : List UInt8) (raw' : Value) (i r n : Nat) (e : Value) (bs : List UInt8) (pr lb lr off : Int) (m : Nat) (xs : List Value),
    lv = .slice (some ⟨g, o, none⟩) l.length c ∧ LineAt wr N raw' g o c l ∧ (l ≠ [] → (g = N + 2 ∧ o + l.length ≤ r) ∨ raw'.ownBlock = some g) ∧ Rd wr N s P' ea fpr nl raw' rec fi fp last i r n e bs pr lb lr off m xs ∧
    Fr (LineS N raw) w wr ∧ NewOr w raw raw' ∧ ((P = [] ∧ l = [] ∧ P' = [] ∧ ev = .iface 84 (.pointer (some ea))) ∨ (P ≠ [] ∧ ev = .nilIface ∧ ((∃ a, l = a ++ [10] ∧ (10 : UInt8) ∉ a ∧ P = l ++ P') ∨ (l = Cs.norm P ∧ (10 : UInt8) ∉ l ∧ (10 : UInt8) ∉ P ∧ P' = []))))

theorem LineAt.shorter {w : World} {N : Nat} {raw : Value} {g o c : Nat} {l : List UInt8} (h : LineAt w N raw g o c l) (k : Nat) (hk : k ≤ l.length) : LineAt w N raw g o c (l.take k) := by
  refine ⟨by rw [List.length_take]; have := h.cap; omega, fun j b hj => ?_, fun hne => h.blk (fun e => hne (by rw [e]; simp))⟩
  have hlt := (List.getElem?_eq_some_iff.1 hj).1
  rw [List.length_take] at hlt
  rw [List.getElem?_take_of_lt (by omega)] at hj
  exact h.bytes j b hj

theorem LineAt.byte {w : World} {N : Nat} {raw : Value} {g o c : Nat} {l : List UInt8} (h : LineAt w N raw g o c l) {j : Nat} {b : UInt8} (hj : l[j]? = some b) : w.cell? ⟨g, o + j, none⟩ = some (.int .u8 b.toNat) := by
  obtain ⟨g', o', h1, h2⟩ := h.bytes j b hj
  cases h1
  exact h2

theorem line_of_buf {w : World} {N : Nat} {s : ByteArray} {i r n : Nat} {e : Value} {bs : List UInt8} {pr lb lr : Int} (h : Buf w N s i r n e bs pr lb lr) {o : Nat} {l : List UInt8} (hl : (bs.drop o).take l.length = l) : BytAt w (some ⟨N + 2, o, none⟩) l := by
  intro j c hj
  refine ⟨N + 2, o, rfl, ?_⟩
  have hlt := (List.getElem?_eq_some_iff.1 hj).1
  rw [← hl, List.getElem?_take_of_lt hlt, List.getElem?_drop] at hj
  rw [h.byte, List.getElem?_map, hj]
  rfl

theorem own_poke {w : World} {base e m g j : Nat} {v u : Value} {xs : List Value} (h : w.ownsRow base e 1 v m xs) (hg : v.ownBlock = some g) : ∃ xs', (w.setCell ⟨g, j, none⟩ u).ownsRow base e 1 v m xs' := by
  rcases h.2 with ⟨rfl, rfl⟩ | ⟨g', cap, cur, rfl, h1, h2, h3, h4, h5, h6⟩
  · cases hg
  · simp [Value.ownBlock] at hg
    subst hg
    refine ⟨(cur.setIfInBounds j u).toList.take (m * 1), ?_, .inr ⟨g', cap, cur.setIfInBounds j u, rfl, h1, ?_, h3, h4, by simpa using h5, rfl⟩⟩
    · rw [List.length_take]; simp; omega
    · exact heap_setCell_same w g' j _ _ u h2

theorem Buf.poke {w : World} {N : Nat} {s : ByteArray} {i r n : Nat} {e : Value} {bs : List UInt8} {pr lb lr : Int} (h : Buf w N s i r n e bs pr lb lr) (j : Nat) (b : UInt8) (hj : j < r) :
    Buf (w.setCell ⟨N + 2, j, none⟩ (byteV b)) N s i r n e (bs.set j b) pr lb lr ∧ pend s i r n (bs.set j b) = pend s i r n bs := by
  have hf := fr_setCell w (N + 2) j (byteV b)
  refine ⟨⟨hf.heap h.sr (by omega), hf.heap h.br (by omega), ?_, by rw [List.length_set]; exact h.len, h.hr, h.hn, h.hi, h.hs⟩, ?_⟩
  · rw [heap_setCell_same w _ _ _ _ _ h.bb]
    simp
  · unfold pend
    rw [List.take_set, List.drop_set_of_lt (by omega)]

/-- A byte of the line, written: what is still to be read is the same. -/
theorem Rd.poke {w : World} {N : Nat} {s : ByteArray} {P : List UInt8} {ea : Addr} {fpr : Int} {nl : Nat} {raw rec fi fp last : Value} {i r n : Nat} {e : Value} {bs : List UInt8} {pr lb lr off : Int} {m : Nat} {xs : List Value} (h : Rd w N s P ea fpr nl raw rec fi fp last i r n e bs pr lb lr off m xs)
    (g j : Nat) (b : UInt8) (hg : (g = N + 2 ∧ j < r) ∨ raw.ownBlock = some g) : RdS (w.setCell ⟨g, j, none⟩ (byteV b)) N s P ea fpr nl raw rec fi fp last := by
  have hf := fr_setCell w g j (byteV b)
  rcases hg with ⟨rfl, hj⟩ | hg
  · obtain ⟨h1, h2⟩ := h.buf.poke j b hj
    exact ⟨i, r, n, e, _, pr, lb, lr, off, m, xs, h1, h.err, h.pnd.trans h2.symm, h.csv.fr hf (by omega), Fr.own h.row hf (fun k hk => by have := (h.row.lt k hk).1; omega)⟩
  · have hlt := (h.row.lt g hg).1
    obtain ⟨xs', hx⟩ := own_poke (j := j) (u := byteV b) h.row hg
    exact ⟨i, r, n, e, bs, pr, lb, lr, off, m, xs', h.buf.fr hf (by simp [BufS]; omega), h.err, h.pnd, h.csv.fr hf (by omega), hx⟩

theorem Rd.frozenAt {w : World} {N : Nat} {s : ByteArray} {P : List UInt8} {ea : Addr} {fpr : Int} {nl : Nat} {raw rec fi fp last : Value} {i r n : Nat} {e : Value} {bs : List UInt8} {pr lb lr off : Int} {m : Nat} {xs : List Value} (h : Rd w N s P ea fpr nl raw rec fi fp last i r n e bs pr lb lr off m xs)
    (g j : Nat) (hg : g = N + 2 ∨ raw.ownBlock = some g) : w.frozen? ⟨g, j, none⟩ = false := by
  rcases hg with rfl | hg
  · exact frozen_of_row w _ _ _ _ h.buf.bb
  · rcases h.row.2 with ⟨h0, _⟩ | ⟨g', cap, cur, h0, _, h2, _⟩
    · rw [h0] at hg; cases hg
    · rw [h0] at hg; simp [Value.ownBlock] at hg; subst hg; exact frozen_of_row w _ _ _ _ h2

/-- The counters, written. -/
theorem Rd.count {w : World} {N : Nat} {s : ByteArray} {P : List UInt8} {ea : Addr} {fpr : Int} {nl : Nat} {raw rec fi fp last : Value} {i r n : Nat} {e : Value} {bs : List UInt8} {pr lb lr off : Int} {m : Nat} {xs : List Value} (h : Rd w N s P ea fpr nl raw rec fi fp last i r n e bs pr lb lr off m xs) (x : Int) :
    Rd ((w.setCell ⟨N + 3, 8, none⟩ (.int .i64 ((nl : Int) + 1))).setCell ⟨N + 3, 9, none⟩ (.int .i64 x)) N s P ea fpr (nl + 1) raw rec fi fp last i r n e bs pr lb lr x m xs ∧ Fr (fun k => k = N + 3) w ((w.setCell ⟨N + 3, 8, none⟩ (.int .i64 ((nl : Int) + 1))).setCell ⟨N + 3, 9, none⟩ (.int .i64 x)) := by
  have hf : Fr (fun k => k = N + 3) w ((w.setCell ⟨N + 3, 8, none⟩ (.int .i64 ((nl : Int) + 1))).setCell ⟨N + 3, 9, none⟩ (.int .i64 x)) := (fr_setCell _ _ _ _).trans (fr_setCell _ _ _ _) (fun _ _ h => h)
  exact ⟨⟨h.buf.fr hf (by simp [BufS]), h.err, h.pnd, (h.csv.set_nl _).set_off _, Fr.own h.row hf (fun k hk => by have := (h.row.lt k hk).1; omega)⟩, hf⟩

theorem LineAt.fr {S : Nat → Prop} {w w' : World} {N : Nat} {raw : Value} {g o c : Nat} {l : List UInt8} (h : LineAt w N raw g o c l) (hf : Fr S w w') (hS : l ≠ [] → ¬ S g) : LineAt w' N raw g o c l := by
  refine ⟨h.cap, fun j b hj => ?_, h.blk⟩
  have hne : l ≠ [] := by rintro rfl; simp at hj
  obtain ⟨g', o', h1, h2⟩ := h.bytes j b hj
  cases h1
  exact ⟨g, o, rfl, hf.cell h2 (hS hne)⟩

/-- The line's bytes with one of them written, and cut. -/
theorem LineAt.poke {w : World} {N : Nat} {raw : Value} {g o c k : Nat} {a : List UInt8} (h : LineAt w N raw g o c (a ++ [13, 10])) (hk : a.length = k) : LineAt (w.setCell ⟨g, o + k, none⟩ (byteV 10)) N raw g o c (a ++ [10]) := by
  refine ⟨by have := h.cap; simp at this ⊢; omega, fun j b hj => ⟨g, o, rfl, ?_⟩, fun _ => h.blk (by simp)⟩
  by_cases hjk : j = k
  · subst hjk
    have : b = 10 := by rw [← hk] at hj; simpa using hj.symm
    subst this
    obtain ⟨g', o', h1, h2⟩ := h.bytes j 13 (by rw [← hk]; simp)
    cases h1
    exact World.cell?_setCell_same _ _ _ h2
  · have hlt : j < k := by
      have := (List.getElem?_eq_some_iff.1 hj).1
      simp at this; omega
    rw [List.getElem?_append_left (by omega)] at hj
    obtain ⟨g', o', h1, h2⟩ := h.bytes j b (by rw [List.getElem?_append_left (by omega)]; exact hj)
    cases h1
    rw [World.cell?_setCell_other _ _ _ _ (by intro e; simp only [Addr.mk.injEq] at e; omega)]
    exact h2

end Go.Proofs.Qxb6612546aFmt
