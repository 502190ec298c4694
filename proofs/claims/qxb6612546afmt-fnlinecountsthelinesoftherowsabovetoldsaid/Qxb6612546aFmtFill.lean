import Derived.Test.Qxb6612546aFmtSrc
import Derived.Deep.RegionHeld3
namespace Go.Proofs.Qxb6612546aFmt
open Go.RowKit

theorem addr_add (b o j : Nat) : (⟨b, o, none⟩ : Addr).add j = ⟨b, o + j, none⟩ := by unfold Addr.add; split <;> simp_all

/-- copy(dst, src) as one step of a region that draws; all but dst's block stays. -/
theorem step_copy_fr {P : Program} {ops : Array Oper} {o : Oper} {a : Act} {w : World} {K : Act → World → Prop} {Q : Exit → Act → World → Prop} {E : Prop} (hgd : o.guard = none) (d s : Operand) (dT sT : TypeId)
    (ho : o.op = .call { callee := .builtin .copy, args := #[d, s], argTypes := #[dT, sT] }) (elem : TypeId) (hu : P.underlying dT = some (.slice elem)) (hsz : (P.info? elem).map (·.size) = some 1)
    (dp sp : Option Addr) (dLen dCap sLen sCap : Nat) (hd : a.eval d = .slice dp dLen dCap) (hs : a.eval s = .slice sp sLen sCap)
    (g off : Nat) (cur : List Value) (t : TypeId) (hg : w.heap[g]? = some (.cells cur.toArray t (0, 0))) (cs : List Value) (hn : cs.length = Nat.min sLen dLen)
    (hpos : 0 < cs.length → dp = some ⟨g, off, none⟩ ∧ ∃ ad, sp = some ad ∧ ∀ j v, cs[j]? = some v → w.cell? (ad.add j) = some v)
    (hfit : off + cs.length ≤ cur.length) (h1 : ∀ v ∈ cs, v.oneCell' = true)
    (h : ∀ w', Hid (w'.heap[g]? = some (.cells (splice cur off cs).toArray t (0, 0))) → Fr (fun k => k = g) w w' → K (a.put o.dst (goInt cs.length)) w') :
    if Region.wanted o (yielded ops a.tmps) = true then Oper.wp P o a w K Q else E := by
  have hw : Region.wanted o (yielded ops a.tmps) = true := by simp [Region.wanted, hgd]
  rw [if_pos hw]
  by_cases h0 : cs.length = 0
  · obtain rfl : cs = [] := List.eq_nil_of_length_eq_zero h0
    have hrun := run_copy_none (P := P) w dT sT o.type elem dp sp dLen dCap sLen sCap hu hsz (by simpa using hn.symm)
    unfold Oper.wp
    simp [execOp, ho, resolve, invoke, builtin, hd, hs, hrun, Result.andThen]
    exact h w (show _ = _ by simpa [splice] using hg) (Fr.refl _ _)
  · obtain ⟨rfl, ad, rfl, hsrc⟩ := hpos (by omega)
    have hrun := run_copy_row (P := P) w dT sT o.type elem g off dLen dCap ad sLen sCap cur.toArray t cs hu hsz hg hn hsrc (by simpa using hfit) h1
    unfold Oper.wp
    simp [execOp, ho, resolve, invoke, builtin, hd, hs, hrun, Result.andThen]
    exact h _ (show _ = _ by simpa [splice] using setRow_heap w g _ _ t _ hg) (fr_setRow _ _ _)

/-- The two readers and the buffer: what lies in memory. -/
structure Buf (w : World) (N : Nat) (s : ByteArray) (i r n : Nat) (e : Value) (bs : List UInt8) (pr lb lr : Int) : Prop where
  sr : w.heap[N]? = some (.cells #[.string s, .int .i64 i, .int .i64 pr] 78 (0, 0))
  br : w.heap[N + 1]? = some (.cells #[.slice (some ⟨N + 2, 0, none⟩) 4096 4096, .iface 52 (.pointer (some ⟨N, 0, none⟩)), .int .i64 r, .int .i64 n, e, .int .i64 lb, .int .i64 lr] 116 (0, 0))
  bb : w.heap[N + 2]? = some (.cells (bs.map byteV).toArray 5 (0, 0))
  len : bs.length = 4096
  hr : r ≤ n
  hn : n ≤ 4096
  hi : i ≤ s.size
  hs : s.size ≤ 4194304

/-- What is still to be read. -/
def pend (s : ByteArray) (i r n : Nat) (bs : List UInt8) : List UInt8 := (bs.take n).drop r ++ s.data.toList.drop i

/-- The blocks of the two readers. -/
def BufS (N : Nat) (k : Nat) : Prop := k = N ∨ k = N + 1 ∨ k = N + 2

theorem Buf.cells {w : World} {N : Nat} {s : ByteArray} {i r n : Nat} {e : Value} {bs : List UInt8} {pr lb lr : Int} (h : Buf w N s i r n e bs pr lb lr) :
    w.cell? ⟨N + 1, 0, none⟩ = some (.slice (some ⟨N + 2, 0, none⟩) 4096 4096) ∧ w.cell? ⟨N + 1, 1, none⟩ = some (.iface 52 (.pointer (some ⟨N, 0, none⟩))) ∧ w.cell? ⟨N + 1, 2, none⟩ = some (.int .i64 r) ∧
    w.cell? ⟨N + 1, 3, none⟩ = some (.int .i64 n) ∧ w.cell? ⟨N + 1, 4, none⟩ = some e ∧ w.cell? ⟨N + 1, 5, none⟩ = some (.int .i64 lb) ∧ w.cell? ⟨N + 1, 6, none⟩ = some (.int .i64 lr) := by
  refine ⟨?_, ?_, ?_, ?_, ?_, ?_, ?_⟩ <;> rw [cell_of_row w _ _ _ _ _ h.br] <;> rfl

theorem Buf.frozen {w : World} {N : Nat} {s : ByteArray} {i r n : Nat} {e : Value} {bs : List UInt8} {pr lb lr : Int} (h : Buf w N s i r n e bs pr lb lr) (j : Nat) : w.frozen? ⟨N + 1, j, none⟩ = false := frozen_of_row w _ _ _ _ h.br

theorem Buf.byte {w : World} {N : Nat} {s : ByteArray} {i r n : Nat} {e : Value} {bs : List UInt8} {pr lb lr : Int} (h : Buf w N s i r n e bs pr lb lr) (j : Nat) : w.cell? ⟨N + 2, j, none⟩ = (bs.map byteV)[j]? := by
  rw [cell_of_row w _ _ _ _ _ h.bb]; simp

theorem Buf.fr {S : Nat → Prop} {w w' : World} {N : Nat} {s : ByteArray} {i r n : Nat} {e : Value} {bs : List UInt8} {pr lb lr : Int} (h : Buf w N s i r n e bs pr lb lr) (hf : Fr S w w') (hS : ∀ k, BufS N k → ¬ S k) : Buf w' N s i r n e bs pr lb lr :=
  { h with sr := hf.heap h.sr (hS _ (.inl rfl)), br := hf.heap h.br (hS _ (.inr (.inl rfl))), bb := hf.heap h.bb (hS _ (.inr (.inr rfl))) }

theorem Buf.lt {w : World} {N : Nat} {s : ByteArray} {i r n : Nat} {e : Value} {bs : List UInt8} {pr lb lr : Int} (h : Buf w N s i r n e bs pr lb lr) : N + 2 < w.heap.size := (Array.getElem?_eq_some_iff.1 h.bb).1

/-- The struct of the buffered reader, written. -/
theorem heap_br {w : World} {N : Nat} {x0 x1 x2 x3 x4 x5 x6 : Value} (h : w.heap[N]? = some (.cells #[x0, x1, x2, x3, x4, x5, x6] 116 (0, 0))) (j : Nat) (v : Value) : (w.setCell ⟨N, j, none⟩ v).heap[N]? = some (.cells (#[x0, x1, x2, x3, x4, x5, x6].setIfInBounds j v) 116 (0, 0)) :=
  heap_setCell_same w N j _ _ v h

theorem Buf.drew {w : World} {N : Nat} {s : ByteArray} {i r n : Nat} {e : Value} {bs : List UInt8} {pr lb lr : Int} (h : Buf w N s i r n e bs pr lb lr) : Buf w.drew N s i r n e bs pr lb lr :=
  { h with sr := h.sr, br := h.br, bb := h.bb }

theorem Buf.drewN {w : World} {N : Nat} {s : ByteArray} {i r n : Nat} {e : Value} {bs : List UInt8} {pr lb lr : Int} (m : Nat) (h : Buf w N s i r n e bs pr lb lr) : Buf (w.drewN m) N s i r n e bs pr lb lr :=
  { h with sr := h.sr, br := h.br, bb := h.bb }

/-- Behind the slide. -/
theorem Buf.slid {w wc : World} {N : Nat} {s : ByteArray} {i r n : Nat} {e : Value} {bs : List UInt8} {pr lb lr : Int} {cs : List Value} (h : Buf w N s i r n e bs pr lb lr) (hcs : cs = ((bs.take n).drop r).map byteV)
    (k1 : wc.heap[N + 2]? = some (.cells (splice (bs.map byteV) 0 cs).toArray 5 (0, 0))) (k2 : Fr (fun k => k = N + 2) w wc) :
    Fr (BufS N) w ((wc.setCell ⟨N + 1, 3, none⟩ (.int .i64 ((n : Int) - r))).setCell ⟨N + 1, 2, none⟩ (.int .i64 0)) ∧
    Buf ((wc.setCell ⟨N + 1, 3, none⟩ (.int .i64 ((n : Int) - r))).setCell ⟨N + 1, 2, none⟩ (.int .i64 0)) N s i 0 (n - r) e ((bs.take n).drop r ++ bs.drop (n - r)) pr lb lr ∧
    ((bs.take n).drop r ++ bs.drop (n - r)).take (n - r) = (bs.take n).drop r := by
  have hl : ((bs.take n).drop r).length = n - r := by simp [h.len]; have := h.hn; omega
  have e1 := fr_setCell wc (N + 1) 3 (.int .i64 ((n : Int) - r))
  have e2 := fr_setCell (wc.setCell ⟨N + 1, 3, none⟩ (.int .i64 ((n : Int) - r))) (N + 1) 2 (.int .i64 0)
  have e3 : Fr (fun k => k = N + 1) wc ((wc.setCell ⟨N + 1, 3, none⟩ (.int .i64 ((n : Int) - r))).setCell ⟨N + 1, 2, none⟩ (.int .i64 0)) := e1.trans e2 (fun _ _ h => h)
  have hbr := heap_br (heap_br (k2.heap h.br (by omega)) 3 (.int .i64 ((n : Int) - r))) 2 (.int .i64 0)
  refine ⟨(k2.mono (T := BufS N) fun _ _ h => .inr (.inr h)).trans e3 (fun _ _ h => .inr (.inl h)), ⟨e3.heap (k2.heap h.sr (by omega)) (by omega), ?_, ?_, ?_, Nat.zero_le _, by have := h.hn; omega, h.hi, h.hs⟩, ?_⟩
  · have hsub : ((n : Int) - r) = ((n - r : Nat) : Int) := by have := h.hr; omega
    rw [hsub] at hbr ⊢
    simpa using hbr
  · refine e3.heap ?_ (by omega)
    rw [k1, splice, hcs]
    have h4 : (((bs.take n).drop r).map byteV).length = n - r := by rw [List.length_map, hl]
    rw [h4]
    simp
  · rw [List.length_append, hl, List.length_drop, h.len]; have := h.hr; have := h.hn; omega
  · rw [List.take_append_of_le_length (by omega), List.take_of_length_le (by omega)]

/-- What a Read of the text into the buffer's free part leaves. -/
def ReadPost (N : Nat) (s : ByteArray) (i k : Nat) (e : Value) (bs : List UInt8) (lb lr : Int) (eof : Value) (w : World) (en : Ending) (w' : World) : Prop :=
  ∃ (i' m : Nat) (bs' : List UInt8) (pr' : Int) (ev : Value), en = .returned (.tuple #[.int .i64 m, ev]) ∧ Fr (BufS N) w w' ∧ Buf w' N s i' 0 k e bs' pr' lb lr ∧ w'.heap[N + 1]? = w.heap[N + 1]? ∧ k + m ≤ 4096 ∧
    bs'.take k = bs.take k ∧ (bs'.take (k + m)).drop k ++ s.data.toList.drop i' = s.data.toList.drop i ∧ ((i < s.size ∧ ev = .nilIface ∧ 0 < m) ∨ (i = s.size ∧ ev = eof ∧ m = 0))

theorem extract_list (s : ByteArray) (i : Nat) : (s.extract i s.size).data.toList = s.data.toList.drop i := by
  rw [ByteArray.data_extract, Array.toList_extract]
  rw [List.extract_eq_take_drop, List.take_of_length_le (by simp)]

theorem read_buf (N : Nat) (s : ByteArray) (i k : Nat) (e eof : Value) (bs : List UInt8) (pr lb lr : Int) (w : World) (h : Buf w N s i 0 k e bs pr lb lr) (he : w.cell? ⟨0, 0, none⟩ = some eof) (hk : k < 4096) :
    Calls Tryf.prog 97 #[.pointer (some ⟨N, 0, none⟩), .slice (some ⟨N + 2, k, none⟩) (4096 - k) (4096 - k)] w (ReadPost N s i k e bs lb lr eof w) := by
  have hi := h.hi
  have hs := h.hs
  have hlen := h.len
  by_cases hlt : i < s.size
  · obtain ⟨m, hm⟩ : ∃ m, Nat.min (s.size - i) (4096 - k) = m := ⟨_, rfl⟩
    have hm1 : m ≤ s.size - i := by rw [← hm]; exact Nat.min_le_left _ _
    have hm2 : m ≤ 4096 - k := by rw [← hm]; exact Nat.min_le_right _ _
    have hm3 : 0 < m := by
      rw [← hm]
      have : Nat.min (s.size - i) (4096 - k) = min (s.size - i) (4096 - k) := rfl
      omega
    refine (read_some N (N + 2) i k (4096 - k) (4096 - k) pr s (bs.map byteV) w h.sr h.bb (by omega) hlt hs (by simp [hlen]; omega) (by omega)).mono ?_
    rw [hm]
    rintro en w' ⟨rfl, hf, h1, h2⟩
    have hd : (s.data.toList.drop i).length = s.size - i := by simp
    have e1 : strCells (s.extract i s.size) m = ((s.data.toList.drop i).take m).map byteV := by rw [strCells, extract_list]
    have hl1 : ((s.data.toList.drop i).take m).length = m := by rw [List.length_take, hd]; omega
    refine ⟨i + m, m, bs.take k ++ ((s.data.toList.drop i).take m ++ bs.drop (k + m)), -1, .nilIface, rfl, hf.mono (fun j _ hj => by rcases hj with hj | hj; exact .inl hj; exact .inr (.inr hj)), ⟨h1, ?_, ?_, ?_, Nat.zero_le _, h.hn, by omega, hs⟩, ?_, by omega, ?_, ?_, .inl ⟨hlt, rfl, hm3⟩⟩
    · exact hf.heap h.br (by omega)
    · rw [h2, e1]
      simp only [splice, List.map_append, List.map_take, List.map_drop, List.length_map, List.length_take, List.length_drop]
      congr 6
      have : s.data.toList.length = s.size := by simp
      omega
    · rw [List.length_append, List.length_append, hl1, List.length_take, List.length_drop, hlen]; omega
    · exact hf.block _ (by have := h.lt; omega) (by omega)
    · rw [List.take_append_of_le_length (by rw [List.length_take]; omega), List.take_take, Nat.min_self]
    · rw [← List.append_assoc, List.take_append_of_le_length (by rw [List.length_append, hl1, List.length_take]; omega), List.take_of_length_le (by rw [List.length_append, hl1, List.length_take]; omega),
        List.drop_append_of_le_length (by rw [List.length_take]; omega), List.drop_of_length_le (by rw [List.length_take]; omega), List.nil_append, ← List.drop_drop, List.take_append_drop]
  · refine (read_end N i pr s eof _ _ _ w h.sr he (by omega) (by omega)).mono ?_
    rintro en w' ⟨rfl, hb⟩
    have hf : Fr (fun _ => False) w w' := Fr.of_below hb
    refine ⟨i, 0, bs, pr, eof, rfl, Fr.of_below hb, h.fr hf (by simp), hb.block _ (by have := h.lt; omega), by omega, rfl, by simp, .inr ⟨by omega, rfl, rfl⟩⟩

/-- What fill leaves: the bytes still to be read are the same; it has read on, or met the end. -/
def FillPost (N : Nat) (s : ByteArray) (i r n : Nat) (eof : Value) (bs : List UInt8) (lb lr : Int) (w : World) (e : Ending) (w' : World) : Prop :=
  e = .returned (.tuple #[]) ∧ Fr (BufS N) w w' ∧ ∃ (i' n' : Nat) (e' : Value) (bs' : List UInt8) (pr' : Int), Buf w' N s i' 0 n' e' bs' pr' lb lr ∧ pend s i' 0 n' bs' = pend s i r n bs ∧ n - r ≤ n' ∧ bs'.take (n - r) = (bs.take n).drop r ∧
    ((i < s.size ∧ e' = .nilIface ∧ n - r < n') ∨ (i = s.size ∧ e' = eof))

/-- What fill wants of the last store. -/
theorem fill_last {N : Nat} {s : ByteArray} {i r n i' m : Nat} {eof e' : Value} {bs bs1 bs' : List UInt8} {pr' lb lr : Int} {w wx w2 : World} (hfr : Fr (BufS N) w wx) (hB : Buf wx N s i' 0 (n - r) .nilIface bs' pr' lb lr)
    (hle : n - r + m ≤ 4096) (h1 : bs'.take (n - r) = bs1.take (n - r)) (h2 : (bs'.take (n - r + m)).drop (n - r) ++ s.data.toList.drop i' = s.data.toList.drop i) (htk : bs1.take (n - r) = (bs.take n).drop r)
    (hfr2 : Fr (fun k => k = N + 1) wx w2) (hb2 : w2.heap[N + 1]? = some (.cells #[.slice (some ⟨N + 2, 0, none⟩) 4096 4096, .iface 52 (.pointer (some ⟨N, 0, none⟩)), .int .i64 0, .int .i64 (n - r + m : Nat), e', .int .i64 lb, .int .i64 lr] 116 (0, 0)))
    (hcase : (i < s.size ∧ e' = .nilIface ∧ 0 < m) ∨ (i = s.size ∧ e' = eof)) : FillPost N s i r n eof bs lb lr w (.returned (.tuple #[])) w2 := by
  refine ⟨rfl, hfr.trans hfr2 (fun _ _ h => .inr (.inl h)), i', n - r + m, e', bs', pr', ⟨hfr2.heap hB.sr (by omega), hb2, hfr2.heap hB.bb (by omega), hB.len, Nat.zero_le _, hle, hB.hi, hB.hs⟩, ?_, by omega, ?_, ?_⟩
  · unfold pend
    rw [← htk, ← h1, ← h2, List.drop_zero, ← List.append_assoc]
    congr 1
    rw [show bs'.take (n - r) = (bs'.take (n - r + m)).take (n - r) by rw [List.take_take]; congr 1; omega, List.take_append_drop]
  · rw [h1, htk]
  · rcases hcase with ⟨a, b, c⟩ | h
    · exact .inl ⟨a, b, by omega⟩
    · exact .inr h

theorem Tryf.methRead (p : Value) (w : World) : (method 259 52 p "Read").run Tryf.prog w = .ok (97, p) w := by kernel_rfl

set_option maxRecDepth 100000 in
set_option maxHeartbeats 1000000 in
theorem fill_any (N : Nat) (s : ByteArray) (i r n : Nat) (ea : Addr) (bs : List UInt8) (pr lb lr : Int) (w : World) (h : Buf w N s i r n .nilIface bs pr lb lr) (he : w.cell? ⟨0, 0, none⟩ = some (.iface 84 (.pointer (some ea)))) (hN : 0 < N) (hroom : n - r < 4096) :
    Calls Tryf.prog 76 #[.pointer (some ⟨N + 1, 0, none⟩)] w (FillPost N s i r n (.iface 84 (.pointer (some ea))) bs lb lr w) := by
  obtain ⟨c0, c1, c2, c3, c4, c5, c6⟩ := h.cells
  have hr := h.hr
  have hn := h.hn
  have h' := hide h
  clear h
  go_enter Tryf.func76, Tryf.ntmps76
  go_upto_if 9 with fail
  go_cut [] from 5 (fun wr => ∃ bs1 : List UInt8, Fr (BufS N) w wr ∧ Buf wr N s i 0 (n - r) .nilIface bs1 pr lb lr ∧ bs1.take (n - r) = (bs.take n).drop r)
  case first =>
    by_cases hr0 : r = 0
    · subst hr0
      clear hroom he
      go_wp2
      go_meet
      case rel => exact ⟨bs, Fr.refl _ _, by simpa using unhide h', by simp⟩
    · have hb' := hide (unhide h').bb
      have hcl := hide (fun j => (unhide h').byte j)
      have hlen := hide (unhide h').len
      have hrp : (0 : Int) < r := by omega
      obtain ⟨cs, hcs⟩ : ∃ cs, cs = ((bs.take n).drop r).map byteV := ⟨_, rfl⟩
      have hcl2 : cs.length = n - r := by rw [hcs]; simp [unhide hlen]; omega
      have hcs' := hide hcs
      have hcl3 := hide hcl2
      have hone : Hid (∀ v ∈ cs, v.oneCell' = true) := by
        intro v hv
        rw [hcs] at hv
        obtain ⟨b, _, rfl⟩ := List.mem_map.1 hv
        rfl
      have hsrc : Hid (∀ j v, cs[j]? = some v → w.cell? ⟨N + 2, r + j, none⟩ = some v) := by
        intro j v hv
        have hj : j < n - r := by have := (List.getElem?_eq_some_iff.1 hv).1; omega
        rw [unhide hcl, ← hv, hcs]
        rw [List.map_drop, List.getElem?_drop, List.map_take, List.getElem?_take_of_lt (by omega)]
      have hnI : (n : Int) ≤ 4096 := by omega
      obtain ⟨A, hA⟩ : ∃ A : Option Addr, (if 4096 = r then some (⟨N + 2, 0, none⟩ : Addr) else some ⟨N + 2, r, none⟩) = A := ⟨_, rfl⟩
      have hA' : Hid (0 < cs.length → ∃ ad, A = some ad ∧ ∀ j v, cs[j]? = some v → w.cell? (ad.add j) = some v) := by
        intro hp
        refine ⟨⟨N + 2, r, none⟩, ?_, fun j v hv => ?_⟩
        · rw [← hA, if_neg]; omega
        · rw [addr_add]; exact unhide hsrc j v hv
      have hmn : Hid (cs.length = Nat.min (n - r) 4096) := by
        have : Nat.min (n - r) 4096 = n - r := Nat.min_eq_left (by omega)
        rw [Hid, this]; exact hcl2
      have hfit : Hid (0 + cs.length ≤ (bs.map byteV).length) := by simp [Hid, unhide hlen, hcl2]; omega
      have hb0 : ∀ m, Hid (Below (N + 2) w (w.drewN m)) := fun m => bdrew (Below.refl _ w)
      clear hcs hcl2
      go_upto_region 1 with fail
      go_cut [] from 5 (fun wr => wr.heap[N + 2]? = some (.cells (splice (bs.map byteV) 0 cs).toArray 5 (0, 0)) ∧ Fr (fun k => k = N + 2) w wr)
      case first =>
        go_region_law (refine step_copy_fr rfl (.tmp 13) (.tmp 26) 29 29 rfl 5 Tryf.underlying29 Tryf.size5 _ _ 4096 4096 (n - r) (4096 - r) (by simp [Act.eval, Act.put] <;> rfl) (by simp [Act.eval, Act.put] <;> rfl) (N + 2) 0 (bs.map byteV) 5 (by exact unhide hb') cs (unhide hmn) (fun hp => ⟨rfl, by exact unhide hA' hp⟩) (unhide hfit) (unhide hone) ?_; intro w2 hg2 hf2)
        all_goals
          have hf2' : Hid (Fr (fun k => k = N + 2) w w2) := ⟨hf2.os, hf2.tape, hf2.output, hf2.size, hf2.block⟩
          clear hf2
          go_wp2
          go_meet
          case rel => exact ⟨hg2.out, unhide hf2'⟩
      case rest =>
        obtain ⟨k1, k2⟩ := hcut
        clear hA' hmn hfit hsrc hone
        have hbr := k2.heap (unhide h').br (by omega)
        have d2 : wc.cell? ⟨N + 1, 2, none⟩ = some (.int .i64 r) := by rw [cell_of_row wc _ _ _ _ _ hbr]; rfl
        have d3 : wc.cell? ⟨N + 1, 3, none⟩ = some (.int .i64 n) := by rw [cell_of_row wc _ _ _ _ _ hbr]; rfl
        have f2 : wc.frozen? ⟨N + 1, 2, none⟩ = false := frozen_of_row wc _ _ _ _ hbr
        have f3 : wc.frozen? ⟨N + 1, 3, none⟩ = false := frozen_of_row wc _ _ _ _ hbr
        have hbr' := hide hbr
        have k1' := hide k1
        have k2' := hide k2
        clear k1 k2 hbr hb' hcl c0 c1 c2 c3 c4 c5 c6 hA
        go_wp2
        go_region
        all_goals
          go_wp2
          go_meet
          case rel =>
            obtain ⟨j1, j2, j3⟩ := (unhide h').slid (unhide hcs') (unhide k1') (unhide k2')
            exact ⟨_, ⟨j1.os, j1.tape, j1.output, j1.size, j1.block⟩, j2.drew, j3⟩
  case rest =>
    obtain ⟨bs1, hfr1, hB1, htk⟩ := hcut
    obtain ⟨d0, d1, d2, d3, d4, d5, d6⟩ := hB1.cells
    have hfr1' := hide hfr1
    have hB1' := hide hB1
    have htk' := hide htk
    have hnI : ¬ ((4096 : Int) ≤ ((n - r : Nat) : Int)) := by omega
    clear hfr1 hB1 htk c0 c1 c2 c3 c4 c5 c6
    go_wp2
    go_quiet (fail)
    go_wp2
    go_loopw [2] (fun iv wr => iv = .int .i64 100 ∧ Fr (BufS N) w wr ∧ Buf wr N s i 0 (n - r) .nilIface bs1 pr lb lr) (fun _ _ => 0)
    case atStart => exact ⟨rfl, fdrew (unhide hfr1'), (unhide hB1').drewN _⟩
    case round =>
      obtain ⟨rfl, hfr2, hB2⟩ := hrel
      clear d0 d1 d2 d3 d4 d5 d6 hB1' hfr1'
      obtain ⟨d0, d1, d2, d3, d4, d5, d6⟩ := hB2.cells
      have f3 := hB2.frozen 3
      have hfr2' := hide hfr2
      have hB2' := hide hB2
      clear hfr2 hB2 d5 d6
      have hw9 : (n - r : Nat) ≤ 4096 := by omega
      have hw9' : ((n - r : Nat) : Int) ≤ 4096 := by omega
      have hmeth := fun p w => Tryf.methRead p w
      have hne4 : ¬ 4096 = n - r := by omega
      have HR : Hid (∀ m, Calls Tryf.prog 97 #[.pointer (some ⟨N, 0, none⟩), .slice (some ⟨N + 2, n - r, none⟩) (4096 - (n - r)) (4096 - (n - r))] (wr.drewN m) (ReadPost N s i (n - r) .nilIface bs1 lb lr (.iface 84 (.pointer (some ea))) (wr.drewN m))) := fun m =>
        read_buf N s i (n - r) .nilIface (.iface 84 (.pointer (some ea))) bs1 pr lb lr (wr.drewN m) ((unhide hB2').drewN m) ((unhide hfr2').cell he (by simp [BufS]; omega)) (by omega)
      go_upto_region 9 with fail
      go_cut [3, 4] from 58 to 75 (fun nv ev wx => ∃ (i' m : Nat) (bs' : List UInt8) (pr' : Int), nv = .int .i64 m ∧ Fr (BufS N) w wx ∧ Buf wx N s i' 0 (n - r) .nilIface bs' pr' lb lr ∧ n - r + m ≤ 4096 ∧
        bs'.take (n - r) = bs1.take (n - r) ∧ (bs'.take (n - r + m)).drop (n - r) ++ s.data.toList.drop i' = s.data.toList.drop i ∧ ((i < s.size ∧ ev = .nilIface ∧ 0 < m) ∨ (i = s.size ∧ ev = .iface 84 (.pointer (some ea)) ∧ m = 0)))
      case first =>
        go_region_held3 (fun wx => wx.cell? ⟨N + 1, 0, none⟩ = some (.slice (some ⟨N + 2, 0, none⟩) 4096 4096) ∧ wx.cell? ⟨N + 1, 1, none⟩ = some (.iface 52 (.pointer (some ⟨N, 0, none⟩))) ∧ wx.cell? ⟨N + 1, 3, none⟩ = some (.int .i64 (n - r : Nat)))
          (first | exact ⟨d0, d1, d3⟩ | exact hkeep)
          (first | (go_at_call 97; refine (unhide HR 1).mono ?_; rintro en w3 ⟨i', m, bs', pr', ev, rfl, q1, q2, q3, q4⟩; have hkeep : w3.cell? ⟨N + 1, 0, none⟩ = some (.slice (some ⟨N + 2, 0, none⟩) 4096 4096) ∧ w3.cell? ⟨N + 1, 1, none⟩ = some (.iface 52 (.pointer (some ⟨N, 0, none⟩))) ∧ w3.cell? ⟨N + 1, 3, none⟩ = some (.int .i64 (n - r : Nat)) := ⟨q2.cells.1, q2.cells.2.1, q2.cells.2.2.2.1⟩))
        go_wp2
        go_meet
        case rel => exact ⟨i', m, bs', pr', rfl, (unhide hfr2').trans ⟨q1.os, q1.tape, q1.output, q1.size, q1.block⟩ (fun _ _ h => h), q2, q4⟩
      case rest =>
        obtain ⟨i', m, bs', pr', rfl, q1, q2, q3, q4, q5, q6⟩ := hcut
        clear HR d0 d1 d2 d3 d4 f3 hB2' hfr2' hmeth
        obtain ⟨d0, d1, d2, d3, d4, d5, d6⟩ := q2.cells
        have f3 := q2.frozen 3
        have f4 := q2.frozen 4
        have hbr := hide q2.br
        have q1' := hide q1
        have q2' := hide q2
        have q4' := hide q4
        have q5' := hide q5
        have hmm : m ≤ 4096 := by omega
        clear q1 q2 q4 q5 d0 d1 d2 d5 d6
        rcases q6 with ⟨g1, rfl, g3⟩ | ⟨g1, rfl, rfl⟩
        · go_wp2
          (try simp only [Exit.inBlock, Exit.then]); refine bodyPost_ret (results_none rfl _ _ _) rfl ?_
          refine fill_last (unhide q1') (unhide q2') q3 (unhide q4') (unhide q5') (unhide htk') (fr_setCell _ _ _ _) ?_ (.inl ⟨g1, rfl, g3⟩)
          rw [heap_br (unhide hbr), show (((n - r : Nat) : Int) + (m : Int)) = ((n - r + m : Nat) : Int) by omega]
          rfl
        · go_wp2
          (try simp only [Exit.inBlock, Exit.then]); refine bodyPost_ret (results_none rfl _ _ _) rfl ?_
          refine fill_last (m := 0) (unhide q1') (unhide q2') (by omega) (unhide q4') (unhide q5') (unhide htk') ((fr_setCell _ _ _ _).trans (fr_setCell _ _ _ _) (fun _ _ h => h)) ?_ (.inr ⟨g1, rfl⟩)
          rw [heap_br (heap_br (unhide hbr) _ _)]
          rfl
end Go.Proofs.Qxb6612546aFmt
