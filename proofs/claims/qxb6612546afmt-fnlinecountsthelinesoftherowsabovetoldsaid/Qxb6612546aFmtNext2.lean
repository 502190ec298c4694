import Derived.Test.Qxb6612546aFmtNext
namespace Go.Proofs.Qxb6612546aFmt
open Go.RowKit

theorem StrS.own' {w : World} {base n : Nat} {v : Value} {xs : List ByteArray} (h : w.ownsRow base 9 1 v n (xs.map Value.string)) : StrS w v xs := by
  have h1 := h.1
  rcases h.2 with ⟨rfl, h0⟩ | ⟨g, cap, cur, rfl, _⟩
  · have : xs = [] := by
      have : xs.length = 0 := by simpa [h0] using h1
      exact List.eq_nil_of_length_eq_zero this
    subst this
    exact StrS.nil w
  · exact StrS.own h

theorem R0.ownN {w : World} {N : Nat} {s : ByteArray} {P : List UInt8} {ea : Addr} {fpr : Int} {nl : Nat} {raw rec fi fp last lst : Value} (h : R0 w N s P ea fpr nl raw rec fi fp last lst) : ∀ k, OwnS N [raw, rec, fi, fp, lst] k → N ≤ k := by
  intro k hk
  rcases hk with hk | ⟨v, hv, hg⟩
  · omega
  · have := (h.lies v hv k hg).1; omega

theorem R0.fr {S : Nat → Prop} {w w' : World} {N : Nat} {s : ByteArray} {P : List UInt8} {ea : Addr} {fpr : Int} {nl : Nat} {raw rec fi fp last lst : Value} (h : R0 w N s P ea fpr nl raw rec fi fp last lst) (hf : Fr S w w') (hS : ∀ k, OwnS N [raw, rec, fi, fp, lst] k → ¬ S k) : R0 w' N s P ea fpr nl raw rec fi fp last lst := by
  have key : ∀ v ∈ [raw, rec, fi, fp, lst], ∀ g, v.ownBlock = some g → ¬ S g := fun v hv g hg => hS g (.inr ⟨v, hv, hg⟩)
  obtain ⟨i, r, n, e, bs, pr, lb, lr, off, m, xs, hR⟩ := h.rd
  obtain ⟨a1, b1, h1⟩ := h.rrec
  obtain ⟨a2, b2, h2⟩ := h.rfi
  obtain ⟨a3, b3, h3⟩ := h.rfp
  obtain ⟨a4, b4, h4⟩ := h.rlst
  have hsz := hf.size
  refine ⟨⟨i, r, n, e, bs, pr, lb, lr, off, m, xs, hR.buf.fr hf (fun k hk => hS k (.inl ?_)), hR.err, hR.pnd, hR.csv.fr hf (hS _ (.inl (by omega))), Fr.own hR.row hf (key _ (by simp))⟩, ⟨a1, b1, Fr.own h1 hf (key _ (by simp))⟩, ⟨a2, b2, Fr.own h2 hf (key _ (by simp))⟩, ⟨a3, b3, Fr.own h3 hf (key _ (by simp))⟩, ⟨a4, b4, Fr.own h4 hf (key _ (by simp))⟩, h.sep, fun v hv g hg => ?_⟩
  · rcases hk with rfl | rfl | rfl <;> omega
  · have := h.lies v hv g hg; omega

theorem TR.fr {S : Nat → Prop} {w w' : World} {N T : Nat} {s : ByteArray} {P : List UInt8} {ea : Addr} {fpr : Int} {nl st : Nat} {rcv : Value} (h : TR w N T s P ea fpr nl st rcv) (hf : Fr S w w') (hS : ∀ k, N ≤ k → k < w.heap.size → ¬ S k) : TR w' N T s P ea fpr nl st rcv := by
  obtain ⟨raw, rec, fi, fp, a0, n0, c0, kv, iv, k, cells, h⟩ := h
  have hlt := (Array.getElem?_eq_some_iff.1 h.tb).1
  have h3 := (R0.bound h.r0.rd).2
  refine ⟨raw, rec, fi, fp, a0, n0, c0, kv, iv, k, cells, h.r0.fr hf (fun q hq => ?_), hf.heap h.tb (hS T (by have := h.hT; omega) hlt), h.hT, h.off, Fr.own h.rfp hf (fun g hg => ?_), h.hk, h.hkb, h.h0⟩
  · refine hS q (h.r0.ownN q hq) ?_
    rcases hq with hq | ⟨v, hv, hg⟩
    · omega
    · exact (h.r0.lies v hv q hg).2
  · have := h.rfp.lt g hg
    exact hS g (by omega) this.2

theorem TR.below {w w' : World} {N T : Nat} {s : ByteArray} {P : List UInt8} {ea : Addr} {fpr : Int} {nl st : Nat} {rcv : Value} (h : TR w N T s P ea fpr nl st rcv) (hf : Below w.heap.size w w') : TR w' N T s P ea fpr nl st rcv :=
  h.fr (S := fun _ => False) (Fr.of_below hf) (fun _ _ _ h => h)

set_option maxRecDepth 100000 in
set_option maxHeartbeats 1000000 in
theorem next_any (N T : Nat) (s : ByteArray) (P : List UInt8) (ea fa : Addr) (fpr : Int) (nl st : Nat) (rcv : Value) (w : World) (h : TR w N T s P ea fpr nl st rcv) (hE : Env w N ea fa) (hnl : nl ≤ 900000000) (hfpr : 0 < fpr ∧ fpr ≤ 1048576000) :
    Calls Tryf.prog 15 #[.pointer (some ⟨T, 0, none⟩)] w (NextPost N T s P ea fpr nl w) := by
  obtain ⟨raw, rec, fi, fp, a0, n0, c0, kv, iv, k, cells, h⟩ := h
  have hc : w.cell? ⟨T, 0, none⟩ = some (.pointer (some ⟨N + 3, 0, none⟩)) := by rw [cell_of_row w _ _ _ _ _ h.tb]; rfl
  have HC := hide (read_any N s P ea fa fpr nl raw rec fi fp a0 n0 c0 w h.r0 hE hnl ⟨by omega, hfpr.2⟩)
  have hbd := hide (R0.bound h.r0.rd).1
  have hsz := (R0.bound h.r0.rd).2
  have hTlt := (Array.getElem?_eq_some_iff.1 h.tb).1
  have h' := hide h
  clear h hE
  go_enter Tryf.func15, Tryf.ntmps15
  go_wp2_with fail
  refine (unhide HC).mono ?_
  rintro en w1 ⟨aD, kD, cD, dv, ev, rfl, rfl, hfr, hcs⟩
  have hB : Below N w w1 := hfr.to_below (fun q hq hs => by have := (unhide h').r0.ownN q hs; omega) (by omega)
  have hB' := hide hB
  have htb : w1.heap[T]? = some (.cells #[.pointer (some ⟨N + 3, 0, none⟩), kv, iv, rcv] 59 (0, 0)) := hfr.heap (unhide h').tb (fun hs => by
    rcases hs with hs | ⟨v, hv, hg⟩
    · have := (unhide h').hT; omega
    · exact (unhide h').off v hv hg)
  have htf : ∀ j, w1.frozen? ⟨T, j, none⟩ = false := fun j => frozen_of_row w1 _ _ _ _ htb
  have htc : w1.cell? ⟨T, 3, none⟩ = some rcv := by rw [cell_of_row w1 _ _ _ _ _ htb]; rfl
  have htf3 := htf 3
  have htb' := hide htb
  have hsz1 := hfr.size
  clear HC hfr hB htb htf
  rcases hcs with ⟨h1, rfl⟩ | ⟨h1, p, rfl⟩ | ⟨x, st', P', nl', fpr', raw', rec', fi', fp', cells', h1, hx, h3, h4, h5, h6, h7, h8, h90⟩
  · have h1' := hide h1
    clear h1
    go_wp2
    go_ret
    exact ⟨unhide hB', .inl ⟨unhide h1', rfl⟩⟩
  · have h1' := hide h1
    clear h1
    go_wp2
    go_ret
    exact ⟨unhide hB', .inr (.inl ⟨unhide h1', p, rfl⟩)⟩
  · have h9 : fpr' = fpr ∧ (((x.length : Int) = fpr ∧ ev = .nilIface) ∨ ((x.length : Int) ≠ fpr ∧ ∃ p, ev = .iface 98 (.pointer (some p)))) := by
      rcases h90 with ⟨h, _⟩ | ⟨_, h⟩
      · omega
      · exact h
    clear h90
    obtain ⟨rfl, h9⟩ := h9
    rcases h9 with ⟨h9, rfl⟩ | ⟨h9, p, rfl⟩
    · have h1' := hide h1
      have h3' := hide h3
      have h4' := hide h4
      have h5' := hide h5
      have h6' := hide h6
      have h7' := hide h7
      have h8' := hide h8
      have h9' := hide h9
      have hx' := hide hx
      clear h1 h3 h4 h5 h6 h7 h8 h9 hx
      go_wp2
      go_ret
      have hfs := fr_setCell w1 T 3 (.slice aD kD cD)
      have hT4 := (unhide h').hT
      have hoff : ∀ v ∈ [raw', rec', fi', fp', .slice aD kD cD], v.ownBlock ≠ some T := fun v hv hg => by
        rcases unhide h4' v hv T hg with ⟨v0, hv0, hg0⟩ | hge
        · exact (unhide h').off v0 hv0 hg0
        · omega
      refine ⟨(unhide hB').trans (Below.setCell (Below.refl _ _) (by show N ≤ T; omega) _), .inr (.inr ⟨x, st', P', nl', unhide h1', unhide h8', .inr ⟨unhide h9', rfl, .slice aD kD cD, ⟨raw', rec', fi', fp', aD, kD, cD, kv, iv, x.length, cells', ?_⟩, ?_⟩⟩)⟩
      · refine ⟨(unhide h3').fr hfs (fun q hq e => ?_), ?_, hT4, hoff, Fr.own (unhide h6') hfs (fun g hg e => hoff fp' (by simp) (by rw [hg, e])), unhide hx', ?_, unhide h7'⟩
        · rcases hq with hq | ⟨v, hv, hg⟩
          · omega
          · exact hoff v hv (by rw [hg, e])
        · rw [heap_setCell_same w1 _ _ _ _ _ (unhide htb')]; rfl
        · have := Cs.mach_len (Cs.norm P) 4 [] [] 0 (nl + 1) (x, st') (by rw [unhide h1']; simp)
          have := Cs.norm_len P
          have := unhide hbd
          simp at *
          omega
      · exact (StrS.own' (unhide h5')).fr hfs (fun g hg e => hoff (.slice aD kD cD) (by simp) (by rw [hg, e]))
    · have h1' := hide h1
      have h8' := hide h8
      have h9' := hide h9
      clear h1 h3 h4 h5 h6 h7 h8 h9 hx
      go_wp2
      go_ret
      exact ⟨unhide hB', .inr (.inr ⟨x, st', P', nl', unhide h1', unhide h8', .inl ⟨unhide h9', p, rfl⟩⟩)⟩
end Go.Proofs.Qxb6612546aFmt
