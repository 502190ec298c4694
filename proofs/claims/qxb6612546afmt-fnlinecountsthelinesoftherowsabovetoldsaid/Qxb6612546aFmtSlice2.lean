import Derived.Test.Qxb6612546aFmtSlice
namespace Go.Proofs.Qxb6612546aFmt
open Go.RowKit

/-- What the buffered reader's error field may hold. -/
def BErr (s : ByteArray) (i : Nat) (e : Value) (ea : Addr) : Prop := e = .nilIface ∨ (e = .iface 84 (.pointer (some ea)) ∧ i = s.size)

/-- What a line read off the buffer is: P0 is what was still to be read. -/
structure RSx (N : Nat) (s : ByteArray) (P0 : List UInt8) (ea fa : Addr) (lb lr : Int) (w : World) (o c : Nat) (l : List UInt8) (ev : Value) (wr : World) (i r n : Nat) (e : Value) (bs : List UInt8) (pr : Int) : Prop where
  cap : l.length ≤ c
  buf : Buf wr N s i r n e bs pr lb lr
  fr : Fr (BufS N) w wr
  err : BErr s i e ea
  at_ : (bs.drop o).take l.length = l
  before : l ≠ [] → o + l.length ≤ r
  rest : P0 = l ++ pend s i r n bs
  cases_ : (ev = .nilIface ∧ ∃ a, l = a ++ [10] ∧ (10 : UInt8) ∉ a) ∨ (ev = .iface 84 (.pointer (some ea)) ∧ (10 : UInt8) ∉ l ∧ pend s i r n bs = []) ∨ (ev = .iface 84 (.pointer (some fa)) ∧ (10 : UInt8) ∉ l ∧ l.length = 4096)

def RSMid (N : Nat) (s : ByteArray) (P0 : List UInt8) (ea fa : Addr) (lb lr : Int) (w : World) (lv ev : Value) (wr : World) : Prop :=
  ∃ (o c : Nat) (l : List UInt8), lv = .slice (some ⟨N + 2, o, none⟩) l.length c ∧ ∃ i r n e bs pr, RSx N s P0 ea fa lb lr w o c l ev wr i r n e bs pr

def RSPost (N : Nat) (s : ByteArray) (P0 : List UInt8) (ea fa : Addr) (w : World) (en : Ending) (w' : World) : Prop :=
  ∃ lb lr lv ev, en = .returned (.tuple #[lv, ev]) ∧ RSMid N s P0 ea fa lb lr w lv ev w'

/-- What the search loop knows. -/
structure RSL (N : Nat) (s : ByteArray) (P0 : List UInt8) (ea : Addr) (lb lr : Int) (w : World) (k t : Nat) (wr : World) (i r n : Nat) (e : Value) (bs : List UInt8) (pr : Int) : Prop where
  buf : Buf wr N s i r n e bs pr lb lr
  fr : Fr (BufS N) w wr
  err : BErr s i e ea
  tle : t ≤ n - r
  no : (10 : UInt8) ∉ ((bs.take n).drop r).take t
  rest : P0 = pend s i r n bs
  meas : 1 ≤ k ∧ (e = .nilIface → 2 * (s.size - i) + 2 ≤ k)

theorem RSL.drewN {N : Nat} {s : ByteArray} {P0 : List UInt8} {ea : Addr} {lb lr : Int} {w : World} {k t : Nat} {wr : World} {i r n : Nat} {e : Value} {bs : List UInt8} {pr : Int} (m : Nat) (h : RSL N s P0 ea lb lr w k t wr i r n e bs pr) : RSL N s P0 ea lb lr w k t (wr.drewN m) i r n e bs pr :=
  { h with buf := h.buf.drewN m, fr := fdrew h.fr }

theorem pend_length {w : World} {N : Nat} {s : ByteArray} {i r n : Nat} {e : Value} {bs : List UInt8} {pr lb lr : Int} (h : Buf w N s i r n e bs pr lb lr) : (pend s i r n bs).length = (n - r) + (s.size - i) := by
  have := h.len; have := h.hn; have := h.hr
  have h2 : s.data.toList.length = s.size := by simp
  unfold pend
  rw [List.length_append, List.length_drop, List.length_take, List.length_drop, h2]
  omega

/-- The bytes that are searched. -/
theorem RSL.bytes {N : Nat} {s : ByteArray} {P0 : List UInt8} {ea : Addr} {lb lr : Int} {w : World} {k t : Nat} {wr : World} {i r n : Nat} {e : Value} {bs : List UInt8} {pr : Int} (h : RSL N s P0 ea lb lr w k t wr i r n e bs pr) :
    BytAt wr (if 4096 = r + t then some (⟨N + 2, 0, none⟩ : Addr) else some ⟨N + 2, r + t, none⟩) ((bs.take n).drop (r + t)) ∧ ((bs.take n).drop (r + t)).length = n - (r + t) := by
  have hl := h.buf.len; have hn := h.buf.hn; have hr := h.buf.hr; have ht := h.tle
  refine ⟨fun j c hj => ?_, by rw [List.length_drop, List.length_take]; omega⟩
  have hlt : r + t + j < n := by
    have := (List.getElem?_eq_some_iff.1 hj).1
    rw [List.length_drop, List.length_take] at this
    omega
  refine ⟨N + 2, r + t, by rw [if_neg]; omega, ?_⟩
  rw [h.buf.byte, List.getElem?_map]
  rw [List.getElem?_drop, List.getElem?_take_of_lt hlt] at hj
  rw [hj]; rfl

/-- Found. -/
theorem RSL.found {N : Nat} {s : ByteArray} {P0 : List UInt8} {ea fa : Addr} {lb lr : Int} {w : World} {k t : Nat} {wr w2 : World} {i r n : Nat} {e : Value} {bs : List UInt8} {pr : Int} (h : RSL N s P0 ea lb lr w k t wr i r n e bs pr)
    {pre post : List UInt8} (hL : (bs.take n).drop (r + t) = pre ++ 10 :: post) (hpre : (10 : UInt8) ∉ pre) (lb' lr' : Int) (hf : Fr (fun k => k = N + 1) wr w2)
    (hb : w2.heap[N + 1]? = some (.cells #[.slice (some ⟨N + 2, 0, none⟩) 4096 4096, .iface 52 (.pointer (some ⟨N, 0, none⟩)), .int .i64 (r + (t + pre.length + 1) : Nat), .int .i64 n, e, .int .i64 lb', .int .i64 lr'] 116 (0, 0))) :
    RSMid N s P0 ea fa lb' lr' w (.slice (some ⟨N + 2, r, none⟩) (t + pre.length + 1) (4096 - r)) .nilIface w2 := by
  have hl := h.buf.len; have hn := h.buf.hn; have hr := h.buf.hr; have ht := h.tle
  have hlen := congrArg List.length hL
  rw [List.length_drop, List.length_take, List.length_append, List.length_cons] at hlen
  have hD : (bs.take n).drop r = ((bs.take n).drop r).take t ++ (pre ++ 10 :: post) := by
    rw [← hL, ← List.drop_drop, List.take_append_drop]
  obtain ⟨l, hll⟩ : ∃ l, l = ((bs.take n).drop r).take t ++ (pre ++ [10]) := ⟨_, rfl⟩
  have hln : l.length = t + pre.length + 1 := by rw [hll]; simp [List.length_take]; omega
  have hDl : (bs.take n).drop r = l ++ post := by rw [hD, hll]; simp
  refine ⟨r, 4096 - r, l, by rw [hln], i, r + (t + pre.length + 1), n, e, bs, pr, by omega, ⟨hf.heap h.buf.sr (by omega), hb, hf.heap h.buf.bb (by omega), hl, by omega, hn, h.buf.hi, h.buf.hs⟩, h.fr.trans hf (fun _ _ hk => .inr (.inl hk)), h.err, ?_, ?_, ?_, .inl ⟨rfl, ((bs.take n).drop r).take t ++ pre, by rw [hll]; simp, ?_⟩⟩
  · have e1 : (bs.drop r).take l.length = ((bs.take n).drop r).take l.length := by
      rw [List.drop_take, List.take_take]; congr 1; omega
    rw [e1, hDl, List.take_append_of_le_length (Nat.le_refl _), List.take_of_length_le (Nat.le_refl _)]
  · intro _; omega
  · rw [h.rest]
    unfold pend
    rw [hDl, List.append_assoc]
    congr 2
    rw [← List.drop_drop, hDl, ← hln, List.drop_append_of_le_length (Nat.le_refl _), List.drop_length, List.nil_append]
  · rw [List.mem_append]
    rintro (hc | hc)
    · exact h.no hc
    · exact hpre hc

/-- What is left in the buffer holds no line feed: a pending end. -/
theorem RSL.ended {N : Nat} {s : ByteArray} {P0 : List UInt8} {ea fa : Addr} {lb lr : Int} {w : World} {k t : Nat} {wr w2 : World} {i r n : Nat} {bs : List UInt8} {pr : Int} (h : RSL N s P0 ea lb lr w k t wr i r n (.iface 84 (.pointer (some ea))) bs pr)
    (hL : (10 : UInt8) ∉ (bs.take n).drop (r + t)) (lb' lr' : Int) (hf : Fr (fun k => k = N + 1) wr w2) (o : Nat) (ho : n - r ≠ 0 → o = r)
    (hb : w2.heap[N + 1]? = some (.cells #[.slice (some ⟨N + 2, 0, none⟩) 4096 4096, .iface 52 (.pointer (some ⟨N, 0, none⟩)), .int .i64 n, .int .i64 n, .nilIface, .int .i64 lb', .int .i64 lr'] 116 (0, 0))) :
    RSMid N s P0 ea fa lb' lr' w (.slice (some ⟨N + 2, o, none⟩) (n - r) (4096 - r)) (.iface 84 (.pointer (some ea))) w2 := by
  have hl := h.buf.len; have hn := h.buf.hn; have hr := h.buf.hr; have ht := h.tle
  have hi : i = s.size := by
    rcases h.err with h0 | h0
    · cases h0
    · exact h0.2
  have hD : (bs.take n).drop r = ((bs.take n).drop r).take t ++ (bs.take n).drop (r + t) := by rw [← List.drop_drop, List.take_append_drop]
  have hln : ((bs.take n).drop r).length = n - r := by rw [List.length_drop, List.length_take]; omega
  have hno : (10 : UInt8) ∉ (bs.take n).drop r := by
    rw [hD, List.mem_append]
    rintro (hc | hc)
    · exact h.no hc
    · exact hL hc
  have hpe : pend s i n n bs = [] := by
    unfold pend
    rw [hi, drop_end s _ (Nat.le_refl _), List.drop_of_length_le (by rw [List.length_take]; omega)]
    rfl
  refine ⟨o, 4096 - r, (bs.take n).drop r, by rw [hln], i, n, n, .nilIface, bs, pr, by omega, ⟨hf.heap h.buf.sr (by omega), hb, hf.heap h.buf.bb (by omega), hl, Nat.le_refl _, hn, h.buf.hi, h.buf.hs⟩, h.fr.trans hf (fun _ _ hk => .inr (.inl hk)), .inl rfl, ?_, ?_, ?_, .inr (.inl ⟨rfl, hno, hpe⟩)⟩
  · rw [hln]
    by_cases h0 : n - r = 0
    · rw [h0, List.take_zero, List.drop_of_length_le (by rw [List.length_take]; omega)]
    · rw [ho h0, List.drop_take]
  · intro hne
    have : n - r ≠ 0 := fun h0 => hne (List.eq_nil_of_length_eq_zero (by omega))
    rw [hln, ho this]; omega
  · rw [h.rest, hpe]
    unfold pend
    rw [hi, drop_end s _ (Nat.le_refl _)]

/-- A full buffer without a line feed. -/
theorem RSL.full {N : Nat} {s : ByteArray} {P0 : List UInt8} {ea fa : Addr} {lb lr : Int} {w : World} {k t : Nat} {wr w2 : World} {i r n : Nat} {e : Value} {bs : List UInt8} {pr : Int} (h : RSL N s P0 ea lb lr w k t wr i r n e bs pr)
    (hL : (10 : UInt8) ∉ (bs.take n).drop (r + t)) (lb' lr' : Int) (hf : Fr (fun k => k = N + 1) wr w2) (hfull : 4096 ≤ n - r)
    (hb : w2.heap[N + 1]? = some (.cells #[.slice (some ⟨N + 2, 0, none⟩) 4096 4096, .iface 52 (.pointer (some ⟨N, 0, none⟩)), .int .i64 n, .int .i64 n, e, .int .i64 lb', .int .i64 lr'] 116 (0, 0))) :
    RSMid N s P0 ea fa lb' lr' w (.slice (some ⟨N + 2, 0, none⟩) 4096 4096) (.iface 84 (.pointer (some fa))) w2 := by
  have hl := h.buf.len; have hn := h.buf.hn; have hr := h.buf.hr; have ht := h.tle
  obtain rfl : r = 0 := by omega
  obtain rfl : n = 4096 := by omega
  have hD : (bs.take 4096).drop 0 = ((bs.take 4096).drop 0).take t ++ (bs.take 4096).drop (0 + t) := by rw [← List.drop_drop, List.take_append_drop]
  have hbs : bs.take 4096 = bs := List.take_of_length_le (by omega)
  have hno : (10 : UInt8) ∉ bs := by
    rw [List.drop_zero, hbs] at hD
    rw [hD, List.mem_append]
    rintro (hc | hc)
    · have := h.no; rw [hbs, List.drop_zero] at this; exact this hc
    · rw [hbs] at hL; exact hL hc
  refine ⟨0, 4096, bs, by rw [hl], i, 4096, 4096, e, bs, pr, by omega, ⟨hf.heap h.buf.sr (by omega), hb, hf.heap h.buf.bb (by omega), hl, Nat.le_refl _, Nat.le_refl _, h.buf.hi, h.buf.hs⟩, h.fr.trans hf (fun _ _ hk => .inr (.inl hk)), h.err, ?_, ?_, ?_, .inr (.inr ⟨rfl, hno, hl⟩)⟩
  · rw [hl, List.drop_zero, hbs]
  · intro _; omega
  · rw [h.rest]
    unfold pend
    rw [hbs, List.drop_zero, List.drop_of_length_le (by omega : bs.length ≤ 4096), List.nil_append]

/-- Read on. -/
theorem RSL.more {N : Nat} {s : ByteArray} {P0 : List UInt8} {ea : Addr} {lb lr : Int} {w : World} {k t : Nat} {wr w2 : World} {i r n : Nat} {bs : List UInt8} {pr : Int} (h : RSL N s P0 ea lb lr w k t wr i r n .nilIface bs pr)
    (hL : (10 : UInt8) ∉ (bs.take n).drop (r + t)) {en : Ending} (hp : FillPost N s i r n (.iface 84 (.pointer (some ea))) bs lb lr wr en w2) :
    ∃ k' i' n' e' bs' pr', k' < k ∧ RSL N s P0 ea lb lr w k' (n - r) w2 i' 0 n' e' bs' pr' := by
  obtain ⟨_, hf, i', n', e', bs', pr', hB, hpd, hle, htk, hc⟩ := hp
  have hl := h.buf.len; have hn := h.buf.hn; have hr := h.buf.hr; have ht := h.tle
  have hm := h.meas.2 rfl
  have l1 := pend_length h.buf
  have l2 := pend_length hB
  rw [hpd, l1] at l2
  have hD : (bs.take n).drop r = ((bs.take n).drop r).take t ++ (bs.take n).drop (r + t) := by rw [← List.drop_drop, List.take_append_drop]
  have hno : (10 : UInt8) ∉ ((bs'.take n').drop 0).take (n - r) := by
    rw [List.drop_zero, List.take_take, Nat.min_eq_left hle, htk, hD, List.mem_append]
    rintro (hc | hc)
    · exact h.no hc
    · exact hL hc
  rcases hc with ⟨h1, rfl, h3⟩ | ⟨h1, rfl⟩
  · exact ⟨2 * (s.size - i') + 2, i', n', .nilIface, bs', pr', by omega, ⟨hB, h.fr.trans hf (fun _ _ hk => hk), .inl rfl, by omega, hno, h.rest.trans hpd.symm, by omega, fun _ => Nat.le_refl _⟩⟩
  · have : i' = s.size := by have := hB.hi; have := hB.hn; omega
    exact ⟨1, i', n', _, bs', pr', by omega, ⟨hB, h.fr.trans hf (fun _ _ hk => hk), .inr ⟨rfl, this⟩, by omega, hno, h.rest.trans hpd.symm, by omega, fun h0 => by cases h0⟩⟩

set_option maxRecDepth 100000 in
set_option maxHeartbeats 1000000 in
theorem readSlice_any (N : Nat) (s : ByteArray) (i r n : Nat) (e : Value) (ea fa : Addr) (bs : List UInt8) (pr lb lr : Int) (w : World) (h : Buf w N s i r n e bs pr lb lr) (hE : BErr s i e ea)
    (he : w.cell? ⟨0, 0, none⟩ = some (.iface 84 (.pointer (some ea)))) (hf : w.cell? ⟨5, 0, none⟩ = some (.iface 84 (.pointer (some fa)))) (hN : 5 < N) :
    Calls Tryf.prog 65 #[.pointer (some ⟨N + 1, 0, none⟩), .int .u8 10] w (RSPost N s (pend s i r n bs) ea fa w) := by
  obtain ⟨P0, hP0⟩ : ∃ P0, pend s i r n bs = P0 := ⟨_, rfl⟩
  rw [hP0]
  have hst : Hid (RSL N s P0 ea lb lr w (2 * s.size + 3) 0 w i r n e bs pr) := ⟨h, Fr.refl _ _, hE, Nat.zero_le _, by simp, hP0.symm, by omega, fun _ => by omega⟩
  clear h hE hP0
  go_enter Tryf.func65, Tryf.ntmps65
  go_wp2
  go_loopg [5, 6] (2 * s.size + 3) (fun k ev sv wr => ∃ (t i r n : Nat) (e : Value) (bs : List UInt8) (pr : Int), ev = .nilIface ∧ sv = .int .i64 t ∧ RSL N s P0 ea lb lr w k t wr i r n e bs pr)
  case atStart => exact ⟨0, i, r, n, e, bs, pr, rfl, rfl, unhide hst⟩
  case round =>
    obtain ⟨t, i1, r1, n1, e1, bs1, pr1, rfl, rfl, hR⟩ := hrel
    clear hst
    obtain ⟨d0, d1, d2, d3, d4, d5, d6⟩ := hR.buf.cells
    have hn := hR.buf.hn; have hr := hR.buf.hr; have ht := hR.tle
    have hR' := hide hR
    obtain ⟨hB, hBl⟩ := hR.bytes
    obtain ⟨q, hq⟩ : ∃ q, Lib.indexByte ((bs1.take n1).drop (r1 + t)) 10 = q := ⟨_, rfl⟩
    have hq' := hide hq
    obtain ⟨A, hA⟩ : ∃ A : Option Addr, (if 4096 = r1 + t then some (⟨N + 2, 0, none⟩ : Addr) else some ⟨N + 2, r1 + t, none⟩) = A := ⟨_, rfl⟩
    have hAn : A ≠ none := by rw [← hA]; split <;> simp
    rw [hA] at hB
    have HI : Hid (∀ m, Calls Tryf.prog 61 #[.slice A (n1 - (r1 + t)) (4096 - (r1 + t)), .int .u8 10] (wr.drewN m) fun e w' => e = .returned (.int .i64 q) ∧ w' = wr.drewN m) := fun m => index_any A _ _ _ 10 q (wr.drewN m) hBl hB (fun h => absurd h hAn) hq
    have hx1 : (n1 : Int) ≤ 4096 := by omega
    have hx2 : r1 + t ≤ n1 := by omega
    have hx3 : ((r1 + t : Nat) : Int) ≤ n1 := by omega
    clear hR hB hBl hq hAn
    go_upto_region 2 with fail
    go_cut [7] from 9 to 113 (fun iv wx => iv = .int .i64 q ∧ RSL N s P0 ea lb lr w gk t wx i1 r1 n1 e1 bs1 pr1)
    case first =>
     go_quiet (first | (go_at_call 61; refine Calls.quiet_of_same (unhide HI _)))
     go_wp2
     all_goals
      go_meet
      case rel => exact ⟨rfl, (unhide hR').drewN _⟩
    case rest =>
    obtain ⟨rfl, hR⟩ := hcut
    clear HI hA d0 d1 d2 d3 d4 d5 d6 hR'
    obtain ⟨d0, d1, d2, d3, d4, d5, d6⟩ := hR.buf.cells
    have f2 := hR.buf.frozen 2
    have f4 := hR.buf.frozen 4
    have f5 := hR.buf.frozen 5
    have f6 := hR.buf.frozen 6
    have hR' := hide hR
    clear hR
    rcases idx_cases (unhide hq') with ⟨pre, post, hL, hpre, rfl⟩ | ⟨hL, rfl⟩
    · have hL' := hide hL
      have hlen := congrArg List.length hL
      rw [List.length_drop, List.length_take, List.length_append, List.length_cons, (unhide hR').buf.len] at hlen
      have hy1 : r1 + (t + pre.length + 1) ≤ n1 := by omega
      have hpre' := hide hpre
      obtain ⟨m, hm⟩ : ∃ m, pre.length + t = m := ⟨_, rfl⟩
      have hmI : (pre.length : Int) + (t : Int) = (m : Int) := by omega
      have hz1 : r1 + m + 1 - r1 = m + 1 := by omega
      have hc10 : wc.cell? ⟨N + 2, r1 + m, none⟩ = some (.int .u8 10) := by
        have h1 : ((bs1.take n1).drop (r1 + t))[pre.length]? = some 10 := by rw [hL]; simp
        rw [List.getElem?_drop, List.getElem?_take_of_lt (by omega)] at h1
        rw [(unhide hR').buf.byte, List.getElem?_map, show r1 + m = r1 + t + pre.length by omega, h1]
        rfl
      have hmb : m ≤ 4096 := by omega
      clear hL hlen hq' hpre
      go_wp2
      go_quiet (fail)
      go_wp2
      go_ret2
      have hR2 := (unhide hR').found (fa := fa) (unhide hL') (unhide hpre') 10 (-1) (w2 := ((wc.setCell ⟨N + 1, 2, none⟩ (.int .i64 ((r1 : Int) + ((m : Int) + 1)))).setCell ⟨N + 1, 5, none⟩ (.int .i64 10)).setCell ⟨N + 1, 6, none⟩ (.int .i64 (-1)))
        (((fr_setCell _ _ _ _).trans (fr_setCell _ _ _ _) (fun _ _ h => h)).trans (fr_setCell _ _ _ _) (fun _ _ h => h)) (by
          rw [heap_br (heap_br (heap_br (unhide hR').buf.br _ _) _ _), show ((r1 : Int) + ((m : Int) + 1)) = ((r1 + (t + pre.length + 1) : Nat) : Int) by omega]
          rfl)
      rw [show t + pre.length + 1 = r1 + m + 1 - r1 by omega] at hR2
      obtain ⟨o, c, l, hlv, i2, r2, n2, e2, bs2, pr2, hx⟩ := hR2
      exact ⟨10, -1, _, _, rfl, o, c, l, hlv, i2, r2, n2, e2, bs2, pr2, { hx with buf := hx.buf.drewN _, fr := fdrew hx.fr }⟩
    · have hL' := hide hL
      clear hL hq'
      rcases (unhide hR').err with he1 | ⟨he1, he2⟩
      · subst he1
        have HB := hide (fun wx h2 h3 => buffered_any N r1 n1 wx h2 h3 hr hn)
        by_cases hfull : 4096 ≤ n1 - r1
        · have hfI : (4096 : Int) ≤ ((n1 - r1 : Nat) : Int) := by omega
          obtain ⟨c, hc⟩ : ∃ c, bs1[4095]? = some c := ⟨bs1[4095]'(by rw [(unhide hR').buf.len]; omega), by simp⟩
          have hcl : wc.cell? ⟨N + 2, 4095, none⟩ = some (byteV c) := by rw [(unhide hR').buf.byte, List.getElem?_map, hc]; rfl
          unfold byteV at hcl
          have hfc : wc.cell? ⟨5, 0, none⟩ = some (.iface 84 (.pointer (some fa))) := (unhide hR').fr.cell hf (by simp [BufS]; omega)
          clear hc hf he
          go_wp2
          go_quiet (first | (go_at_call 75; refine Calls.quiet_of (unhide HB _ (by exact d2) (by exact d3))))
          go_wp2
          go_ret2
          refine ⟨wrap64 c.toNat, -1, _, _, rfl, (unhide hR').full (fa := fa) (unhide hL') (wrap64 c.toNat) (-1) ((((fdrew (Fr.refl _ _)).trans (fr_setCell _ _ _ _) (fun _ _ h => h)).trans (fr_setCell _ _ _ _) (fun _ _ h => h)).trans (fr_setCell _ _ _ _) (fun _ _ h => h)) hfull ?_⟩
          rw [heap_br (heap_br (heap_br ((unhide hR').buf.drewN nq).br _ _) _ _)]
          rfl
        · have hfI : ¬ (4096 : Int) ≤ ((n1 - r1 : Nat) : Int) := by omega
          have HF : Hid (∀ m, Calls Tryf.prog 76 #[.pointer (some ⟨N + 1, 0, none⟩)] (wc.drewN m) (FillPost N s i1 r1 n1 (.iface 84 (.pointer (some ea))) bs1 lb lr (wc.drewN m))) := fun m =>
            fill_any N s i1 r1 n1 ea bs1 pr1 lb lr (wc.drewN m) ((unhide hR').buf.drewN m) ((unhide hR').fr.cell he (by simp [BufS]; omega)) (by omega) (by omega)
          clear hf he
          go_wp2
          go_quiet (first | (go_at_call 75; refine Calls.quiet_of (unhide HB _ (by exact d2) (by exact d3))))
          clear HB
          go_wp2
          go_quiet (fail)
          go_wp2_with fail
          refine (unhide HF _).mono ?_
          intro en w2 hp
          have hp' : FillPost N s i1 r1 n1 (.iface 84 (.pointer (some ea))) bs1 lb lr wc en w2 := by
            obtain ⟨g1, g2, g3⟩ := hp
            exact ⟨g1, ⟨g2.os, g2.tape, g2.output, g2.size, g2.block⟩, g3⟩
          obtain rfl := hp.1
          obtain ⟨k', i', n', e', bs', pr', hk', hR2⟩ := (unhide hR').more (unhide hL') hp'
          have hR2' := hide hR2
          clear hp hp' hR2 HF
          go_wp2
          go_roundg k'
          case measure => exact hk'
          case rel => exact ⟨n1 - r1, i', 0, n', e', bs', pr', rfl, by go_num, unhide hR2'⟩
      · subst he1
        have HE : Hid (∀ m, Calls Tryf.prog 74 #[.pointer (some ⟨N + 1, 0, none⟩)] ((wc.drewN m).setCell ⟨N + 1, 2, none⟩ (.int .i64 n1)) fun en w' => en = .returned (.iface 84 (.pointer (some ea))) ∧ w' = ((wc.drewN m).setCell ⟨N + 1, 2, none⟩ (.int .i64 n1)).setCell ⟨N + 1, 4, none⟩ .nilIface) := fun m =>
          readErr_any N _ _ (by rw [cell_of_row _ _ _ _ _ _ (heap_br ((unhide hR').buf.drewN m).br 2 (.int .i64 n1))]; rfl) (frozen_of_row _ _ _ _ _ (heap_br ((unhide hR').buf.drewN m).br 2 (.int .i64 n1)))
        clear hf he
        go_upto_region 8 with fail
        go_cut [4] from 9 to 113 (fun lv wx => (∃ o, lv = .slice (some ⟨N + 2, o, none⟩) (n1 - r1) (4096 - r1) ∧ (n1 - r1 ≠ 0 → o = r1)) ∧ ∃ m, wx = wc.drewN m)
        case first =>
          go_quiet (fail)
          go_wp2
          all_goals
            go_meet
            case rel => first | exact ⟨⟨_, rfl, by intro _; omega⟩, _, rfl⟩ | exact ⟨⟨0, by congr 1; omega, by intro _; omega⟩, _, rfl⟩
        case rest =>
        obtain ⟨⟨o, rfl, ho⟩, m, rfl⟩ := hcut
        have ho' := hide ho
        clear ho
        go_wp2_with fail
        refine (unhide HE m).mono ?_
        rintro en w2 ⟨rfl, rfl⟩
        clear HE
        have e2 : Hid (∀ x y, (((wc.drewN m).setCell ⟨N + 1, 2, none⟩ (.int .i64 n1)).setCell ⟨N + 1, 4, none⟩ .nilIface).heap[N + 1]? = some (.cells #[.slice (some ⟨N + 2, 0, none⟩) 4096 4096, .iface 52 (.pointer (some ⟨N, 0, none⟩)), .int .i64 n1, .int .i64 n1, .nilIface, .int .i64 lb, .int .i64 lr] 116 (0, 0)) ∧
            (((((wc.drewN m).setCell ⟨N + 1, 2, none⟩ (.int .i64 n1)).setCell ⟨N + 1, 4, none⟩ .nilIface).setCell ⟨N + 1, 5, none⟩ (.int .i64 x)).setCell ⟨N + 1, 6, none⟩ (.int .i64 y)).heap[N + 1]? = some (.cells #[.slice (some ⟨N + 2, 0, none⟩) 4096 4096, .iface 52 (.pointer (some ⟨N, 0, none⟩)), .int .i64 n1, .int .i64 n1, .nilIface, .int .i64 x, .int .i64 y] 116 (0, 0))) := by
          intro x y
          have hbr := ((unhide hR').buf.drewN m).br
          exact ⟨by rw [heap_br (heap_br hbr _ _)]; rfl, by rw [heap_br (heap_br (heap_br (heap_br hbr _ _) _ _) _ _)]; rfl⟩
        have e1 : Hid (Fr (fun k => k = N + 1) wc (((wc.drewN m).setCell ⟨N + 1, 2, none⟩ (.int .i64 n1)).setCell ⟨N + 1, 4, none⟩ .nilIface)) := ((fdrew (Fr.refl _ _)).trans (fr_setCell _ _ _ _) (fun _ _ h => h)).trans (fr_setCell _ _ _ _) (fun _ _ h => h)
        by_cases hz : n1 - r1 = 0
        · go_wp2
          go_ret2
          have hm := (unhide hR').ended (fa := fa) (unhide hL') lb lr (unhide e1) o (unhide ho') (unhide e2 lb lr).1
          rw [hz] at hm
          exact ⟨lb, lr, _, _, rfl, hm⟩
        · obtain rfl := unhide ho' hz
          obtain ⟨j, hj⟩ : ∃ j, n1 - o = j + 1 := ⟨n1 - o - 1, by omega⟩
          obtain ⟨c, hc⟩ : ∃ c, bs1[o + j]? = some c := ⟨bs1[o + j]'(by rw [(unhide hR').buf.len]; omega), by simp⟩
          have hcl : wc.cell? ⟨N + 2, o + j, none⟩ = some (byteV c) := by rw [(unhide hR').buf.byte, List.getElem?_map, hc]; rfl
          unfold byteV at hcl
          have hjb : j ≤ 4096 := by omega
          have hm := hide ((unhide hR').ended (fa := fa) (unhide hL') (wrap64 c.toNat) (-1) (((unhide e1).trans (fr_setCell _ _ _ _) (fun _ _ h => h)).trans (fr_setCell _ _ _ _) (fun _ _ h => h)) o (fun _ => rfl) (unhide e2 (wrap64 c.toNat) (-1)).2)
          clear hc
          go_wp2
          go_ret2
          rw [hj] at hm
          exact ⟨_, _, _, _, rfl, unhide hm⟩
end Go.Proofs.Qxb6612546aFmt
