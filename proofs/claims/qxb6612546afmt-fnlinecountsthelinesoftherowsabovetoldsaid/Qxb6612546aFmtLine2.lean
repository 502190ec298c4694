import Derived.Test.Qxb6612546aFmtLine1
namespace Go.Proofs.Qxb6612546aFmt
open Go.RowKit

set_option maxRecDepth 100000 in
set_option maxHeartbeats 1000000 in
theorem readLine_any (N : Nat) (s : ByteArray) (P : List UInt8) (ea fa : Addr) (fpr : Int) (nl : Nat) (raw rec fi fp last : Value) (w : World) (h : RdS w N s P ea fpr nl raw rec fi fp last)
    (hG : Glob w N ea fa) (hnl : nl ≤ 1000000000) :
    Calls Tryf.prog 53 #[.pointer (some ⟨N + 3, 0, none⟩)] w (LinePost N s P ea fpr nl raw rec fi fp last w) := by
  obtain ⟨i, r, n, e, bs, pr, lb, lr, off, m, xs, hR⟩ := h
  obtain ⟨c0, c1, c2, c3, c4, c5, c7, c8, c9, c10, c11, c12, c13, c14⟩ := hR.csv.cells
  have hN := hG.lt
  have hNs : N + 2 < w.heap.size := hR.buf.lt
  have HS := hide (readSlice_any N s i r n e ea fa bs pr lb lr w hR.buf hR.err hG.eof hG.full hN.1)
  have hR' := hide hR
  have hG' := hide hG
  clear hR hG c0 c1 c2 c3 c4 c5 c8 c9 c10 c11 c12 c13 c14
  go_enter Tryf.func53, Tryf.ntmps53
  go_wp2_with fail
  refine (unhide HS).mono ?_
  rintro en w1 ⟨lb1, lr1, lv, ev, rfl, o, c, l, rfl, i1, r1, n1, e1, bs1, pr1, hx⟩
  have hx' := hide hx
  have hG1 : Glob w1 N ea fa := (unhide hG').fr hx.fr (fun k hk => by simp [BufS] at hk; omega) (by omega)
  have hf1 := hG1.full
  have hcase := hx.cases_
  have q1 := hG1.eql_other
  have q2 := eql_same w1 fa
  have q0 := eql_nil w1 fa
  have hG1' := hide hG1
  clear hx HS hG1
  have hcase' := hide hcase
  have hcsv : Csv w1 N fpr nl off raw rec fi fp last := (unhide hR').csv.fr (unhide hx').fr (by simp [BufS])
  have hrow : w1.ownsRow (N + 4) 5 1 raw m xs := Fr.own (unhide hR').row (unhide hx').fr (fun g hg => by have := (unhide hR').row.lt g hg; simp [BufS]; omega)
  have hcsv' := hide hcsv
  have hrow' := hide hrow
  clear hcsv hrow hcase
  go_upto_region 2 with fail
  go_cut [18] from 8 (fun b wx => wx = w1 ∧ ((b = .bool false ∧ ev ≠ .iface 84 (.pointer (some fa))) ∨ (b = .bool true ∧ ev = .iface 84 (.pointer (some fa)))))
  case first =>
    rcases unhide hcase' with ⟨rfl, -⟩ | ⟨rfl, -⟩ | ⟨rfl, -⟩
    · go_wp2
      go_meet
      case rel => exact ⟨rfl, .inl ⟨rfl, by simp⟩⟩
    · go_wp2
      go_meet
      case rel => exact ⟨rfl, .inl ⟨rfl, by have := (unhide hG1').ne; simpa using this⟩⟩
    · go_wp2
      go_meet
      case rel => exact ⟨rfl, .inr ⟨rfl, by first | rfl | trivial⟩⟩
  case rest =>
    obtain ⟨hw, hb⟩ := hcut
    replace hw := hw.symm
    subst hw
    have hb' := hide hb
    clear hb q0 q1 q2
    go_upto_if 18 with fail
    go_cut [4, 5] from 6 (fun lv ev wr => LMid N s P ea fpr nl raw rec fi fp last w lv ev wr)
    case first =>
      rcases unhide hb' with ⟨rfl, hne⟩ | ⟨rfl, rfl⟩
      · go_wp2
        go_meet
        case rel =>
          have hx := unhide hx'
          refine ⟨N + 2, o, c, l, pend s i1 r1 n1 bs1, raw, i1, r1, n1, e1, bs1, pr1, lb1, lr1, off, m, xs, rfl, ⟨hx.cap, line_of_buf hx.buf hx.at_, fun _ => .inl rfl⟩, fun hl => .inl ⟨rfl, hx.before hl⟩, ⟨hx.buf, hx.err, rfl, unhide hcsv', unhide hrow'⟩, hx.fr.mono (fun _ _ h => .inl h), .inl rfl, (unhide hR').pnd.trans hx.rest, ?_⟩
          rcases unhide hcase' with h0 | h0 | h0
          · exact .inl h0
          · exact .inr h0
          · exact absurd h0.1 hne
      · have hx := unhide hx'
        have hr0 := unhide hrow'
        obtain ⟨ra, rc, hraw⟩ := own_shape' hr0
        subst hraw
        have hz := hide (own_zero hr0)
        obtain ⟨_, _, _, _, _, _, k7, _, _, k10, _⟩ := (unhide hcsv').cells
        have kf := (unhide hcsv').frozen 10
        have hfc : (10 : UInt8) ∉ l ∧ l.length = 4096 := by
          rcases hx.cases_ with h0 | h0 | h0
          · cases h0.1
          · have := (unhide hG1').ne; simp at h0; exact absurd h0.1.symm this
          · exact h0.2
        have hfc' := hide hfc
        have hlb : l.length ≤ 4096 := by omega
        have hnews := hide (bytes_news (line_of_buf hx.buf hx.at_))
        have hPl : P.length ≤ 4198400 := by
          rw [(unhide hR').pnd, pend_length (unhide hR').buf]
          have := (unhide hR').buf.hn; have := (unhide hR').buf.hs; omega
        have hPr := hide ((unhide hR').pnd.trans hx.rest)
        clear hx hr0 hb' hfc
        obtain ⟨i0, hi, hz0, hz1, hz2⟩ := info_parts Tryf.info5
        have hmx : 0 + l.length ≤ maxLen := by unfold maxLen; omega
        have hszb : N + 4 ≤ w1.heap.size := by have := (Array.getElem?_eq_some_iff.1 (unhide hcsv').block).1; omega
        go_wp2_with (at_builtin; refine wpList_append_where _ rfl _ _ 29 rfl (N + 4) 5 i0 (.int .u8 0) 1 1 Tryf.underlying29 hi hz0 hz1 hz2 rfl (by decide) _ 0 _ rfl (unhide hz) ⟨N + 2, o, none⟩ l.length c (l.map byteV) rfl (by simp) (unhide hnews) (byteV_one l) hmx (by omega) hszb ?_)
        intro v2 w2 hown hgrow hnil hwh
        replace hown : w2.ownsRow (N + 4) 5 1 v2 l.length (l.map byteV) := by simpa using hown
        obtain ⟨g2, cap2, hv2, hg2, hc2, hg2s⟩ := own_shape hown (by have := (unhide hfc').2; omega)
        subst hv2
        obtain ⟨hB2, hC2, hF2⟩ := buf_grown (unhide hx').buf (unhide hcsv') (unhide hz) hgrow
        obtain ⟨_, _, _, _, _, _, _, _, _, k10', _⟩ := hC2.cells
        have kf' := hC2.frozen 10
        have hgN : g2 ≠ N + 3 := by omega
        have hst : Hid (LLoop N s P ea fa fpr nl (.slice ra m rc) rec fi fp last off w (P.length + 2) (.iface 84 (.pointer (some fa))) (w2.setCell ⟨N + 3, 10, none⟩ (.slice (some ⟨g2, 0, none⟩) l.length cap2))) := by
          have hfs := fr_setCell w2 (N + 3) 10 (.slice (some ⟨g2, 0, none⟩) l.length cap2)
          refine ⟨g2, cap2, l, pend s i1 r1 n1 bs1, i1, r1, n1, e1, bs1, pr1, lb1, lr1, by have := (unhide hfc').2; omega, ⟨hB2.fr hfs (by simp [BufS]), (unhide hx').err, rfl, hC2.set_raw _, Fr.own hown hfs (by intro g hg; simp [Value.ownBlock] at hg; omega)⟩, ?_, ?_, unhide hPr, .inl ⟨rfl, (unhide hfc').1, ?_⟩⟩
          · refine (((unhide hx').fr.mono (T := LineS N (.slice ra m rc)) fun _ _ h => .inl h).trans hF2 (fun _ _ h => .inr (.inr ?_))).trans hfs (fun _ _ h => .inr (.inl h))
            cases ra
            · simp [Value.ownBlock] at h
            · simpa [Value.ownBlock] using h
          · rcases hwh with h0 | h0
            · refine .inl ?_
              rw [h0]; cases ra <;> rfl
            · exact .inr ⟨w1.heap.size, h0, (unhide hx').fr.size⟩
          · rw [unhide hPr]; simp; omega
        clear hown hgrow hnil hwh hB2 hC2 hF2 k10 kf k7
        have hrN : Hid (∀ k, LineS N (.slice ra m rc) k → N ≤ k) := by
          rintro k (hk | hk | hk)
          · simp [BufS] at hk; omega
          · omega
          · have := ((unhide hR').row.lt k hk).1; omega
        go_wp2
        go_loopg [5] (P.length + 2) (fun k ev wr => LLoop N s P ea fa fpr nl (.slice ra m rc) rec fi fp last off w k ev wr)
        case atStart => exact unhide hst
        case round =>
          obtain ⟨g3, cap3, acc, P3, i3, r3, n3, e3, bs3, pr3, lb3, lr3, hac0, hRd, hfr3, hnew3, hPP, hcs⟩ := hrel
          clear hst
          have hG3 : Glob wr N ea fa := (unhide hG').fr hfr3 (unhide hrN) (by omega)
          have hf3 := hG3.full
          have hPP' := hide hPP
          have hal : acc.length + P3.length ≤ 4198400 := by have := congrArg List.length hPP; rw [List.length_append] at this; omega
          have hPz := hide (hRd.pnd)
          have hfr3' := hide hfr3
          have hnew3' := hide hnew3
          have hRd' := hide hRd
          obtain ⟨_, _, _, _, _, _, k7, _, _, k10, _⟩ := hRd.csv.cells
          have hrowlt := hRd.row.lt g3 rfl
          clear hPP hfr3 hnew3
          rcases hcs with ⟨rfl, h10, hk⟩ | ⟨rfl, a, ha, h10⟩ | ⟨rfl, h10, hP0⟩
          · have q2 := eql_same wr fa
            have h10' := hide h10
            have HS := hide (readSlice_any N s i3 r3 n3 e3 ea fa bs3 pr3 lb3 lr3 wr hRd.buf hRd.err hG3.eof hG3.full hN.1)
            have hG3' := hide hG3
            clear hRd hG3 h10
            go_wp2_with fail
            refine (unhide HS).mono ?_
            rintro en w3 ⟨lb4, lr4, lv4, ev4, rfl, o4, c4, l4, rfl, i4, r4, n4, e4, bs4, pr4, hx4⟩
            have hx4' := hide hx4
            have hC4 : Csv w3 N fpr nl off (.slice (some ⟨g3, 0, none⟩) acc.length cap3) rec fi fp last := (unhide hRd').csv.fr hx4.fr (by simp [BufS])
            have hr4 : w3.ownsRow (N + 4) 5 1 (.slice (some ⟨g3, 0, none⟩) acc.length cap3) acc.length (acc.map byteV) := Fr.own (unhide hRd').row hx4.fr (fun g hg => by have := (unhide hRd').row.lt g hg; simp [BufS]; omega)
            have hr4' := hide hr4
            have hC4' := hide hC4
            obtain ⟨_, _, _, _, _, _, k7', _, _, k10', _⟩ := hC4.cells
            have kf4 := hC4.frozen 10
            have hnews4 := hide (bytes_news (line_of_buf hx4.buf hx4.at_))
            have hl4 : l4.length + (pend s i4 r4 n4 bs4).length = P3.length := by
              have := congrArg List.length hx4.rest
              rw [← unhide hPz, List.length_append] at this
              omega
            have hmx4 : acc.length + l4.length ≤ maxLen := by unfold maxLen; omega
            have hsz4 : N + 4 ≤ w3.heap.size := by have := (Array.getElem?_eq_some_iff.1 hC4.block).1; omega
            clear hx4 HS hC4 hr4 k7 k10
            go_wp2_with (at_builtin; refine wpList_append_where _ rfl _ _ 29 rfl (N + 4) 5 i0 (.int .u8 0) 1 1 Tryf.underlying29 hi hz0 hz1 hz2 rfl (by decide) _ acc.length _ rfl (unhide hr4') ⟨N + 2, o4, none⟩ l4.length c4 (l4.map byteV) rfl (by simp) (unhide hnews4) (byteV_one l4) hmx4 (by omega) hsz4 ?_)
            intro v5 w5 hown5 hgrow5 hnil5 hwh5
            replace hown5 : w5.ownsRow (N + 4) 5 1 v5 (acc ++ l4).length ((acc ++ l4).map byteV) := by simpa using hown5
            obtain ⟨g5, cap5, hv5, hg5, hc5, hg5s⟩ := own_shape hown5 (by rw [List.length_append]; omega)
            rw [List.length_append] at hv5
            subst hv5
            obtain ⟨hB5, hC5, hF5⟩ := buf_grown (unhide hx4').buf (unhide hC4') (unhide hr4') hgrow5
            obtain ⟨_, _, _, _, _, _, _, _, _, k10', _⟩ := hC5.cells
            have kf5 := hC5.frozen 10
            have hg5N : g5 ≠ N + 3 := by omega
            have hst : Hid (∃ k', k' < gk ∧ LLoop N s P ea fa fpr nl (.slice ra m rc) rec fi fp last off w k' ev4 (w5.setCell ⟨N + 3, 10, none⟩ (.slice (some ⟨g5, 0, none⟩) (acc.length + l4.length) cap5))) := by
              have hfs := fr_setCell w5 (N + 3) 10 (.slice (some ⟨g5, 0, none⟩) (acc.length + l4.length) cap5)
              have hx4 := unhide hx4'
              have hmk : ∀ k', ((ev4 = .iface 84 (.pointer (some fa)) ∧ (10 : UInt8) ∉ acc ++ l4 ∧ (pend s i4 r4 n4 bs4).length + 1 ≤ k') ∨ (ev4 = .nilIface ∧ ∃ a, acc ++ l4 = a ++ [10] ∧ (10 : UInt8) ∉ a) ∨ (ev4 = .iface 84 (.pointer (some ea)) ∧ (10 : UInt8) ∉ acc ++ l4 ∧ pend s i4 r4 n4 bs4 = [])) →
                  LLoop N s P ea fa fpr nl (.slice ra m rc) rec fi fp last off w k' ev4 (w5.setCell ⟨N + 3, 10, none⟩ (.slice (some ⟨g5, 0, none⟩) (acc.length + l4.length) cap5)) := by
                intro k' hk'
                refine ⟨g5, cap5, acc ++ l4, pend s i4 r4 n4 bs4, i4, r4, n4, e4, bs4, pr4, lb4, lr4, by rw [List.length_append]; omega, ⟨hB5.fr hfs (by simp [BufS]), hx4.err, rfl, ?_, Fr.own ?_ hfs (by intro g hg; simp [Value.ownBlock] at hg; omega)⟩, ?_, ?_, ?_, hk'⟩
                · rw [List.length_append]; exact hC5.set_raw _
                · rw [List.length_append] at hown5 ⊢; exact hown5
                · refine (((unhide hfr3').trans hx4.fr (fun _ _ h => .inl h)).trans hF5 (fun j hj h => ?_)).trans hfs (fun _ _ h => .inr (.inl h))
                  have hj' : g3 = j := by simpa [Value.ownBlock] using h
                  rcases unhide hnew3' with h0 | ⟨g, h0, h1⟩
                  · exact .inr (.inr (by rw [← h0]; simp [Value.ownBlock, hj']))
                  · simp [Value.ownBlock] at h0; omega
                · rw [List.length_append]
                  rcases hwh5 with h0 | h0
                  · rcases unhide hnew3' with h1 | ⟨g, h1, h2⟩
                    · exact .inl (h0.trans h1)
                    · exact .inr ⟨g, h0.trans h1, h2⟩
                  · exact .inr ⟨w3.heap.size, h0, Nat.le_trans (unhide hfr3').size hx4.fr.size⟩
                · rw [unhide hPP', List.append_assoc, ← hx4.rest, ← unhide hPz]
              rcases hx4.cases_ with ⟨h0, a, h1, h2⟩ | ⟨h0, h1, h2⟩ | ⟨h0, h1, h2⟩
              · refine ⟨0, by omega, hmk 0 (.inr (.inl ⟨h0, acc ++ a, by rw [h1]; simp, ?_⟩))⟩
                rw [List.mem_append]; rintro (h | h)
                · exact unhide h10' h
                · exact h2 h
              · refine ⟨0, by omega, hmk 0 (.inr (.inr ⟨h0, ?_, h2⟩))⟩
                rw [List.mem_append]; rintro (h | h)
                · exact unhide h10' h
                · exact h1 h
              · refine ⟨(pend s i4 r4 n4 bs4).length + 1, by omega, hmk _ (.inl ⟨h0, ?_, Nat.le_refl _⟩)⟩
                rw [List.mem_append]; rintro (h | h)
                · exact unhide h10' h
                · exact h1 h
            clear hown5 hgrow5 hnil5 hwh5 hB5 hC5 hF5 hmx4 hsz4
            go_wp2
            obtain ⟨k', hk1, hk2⟩ := unhide hst
            go_roundg k'
            case measure => exact hk1
            case rel => exact hk2
          · have q0 := eql_nil wr fa
            have ha' := hide ha
            clear ha hG3 hRd
            go_wp2
            go_meet
            case rel =>
              have hRd := unhide hRd'
              refine ⟨g3, 0, cap3, acc, P3, _, i3, r3, n3, e3, bs3, pr3, lb3, lr3, off, acc.length, acc.map byteV, rfl, ⟨?_, ?_, fun _ => .inr rfl⟩, fun _ => .inr rfl, hRd, unhide hfr3', unhide hnew3', unhide hPP', .inl ⟨rfl, a, unhide ha', h10⟩⟩
              · exact (own_bytes hRd.row).1
              · exact (own_bytes hRd.row).2
          · have q1 := hG3.eql_other
            clear hG3 hRd
            go_wp2
            go_meet
            case rel =>
              have hRd := unhide hRd'
              refine ⟨g3, 0, cap3, acc, P3, _, i3, r3, n3, e3, bs3, pr3, lb3, lr3, off, acc.length, acc.map byteV, rfl, ⟨?_, ?_, fun _ => .inr rfl⟩, fun _ => .inr rfl, hRd, unhide hfr3', unhide hnew3', unhide hPP', .inr ⟨rfl, h10, hP0⟩⟩
              · exact (own_bytes hRd.row).1
              · exact (own_bytes hRd.row).2
    case rest =>
      obtain ⟨g, o2, c2, l2, P2, raw2, i2, r2, n2, e2, bs2, pr2, lb2, lr2, off2, m2, xs2, rfl, hLA, hsafe, hRd, hfr2, hnew2, hPP, hcs⟩ := hcut
      have hG2 : Glob wc N ea fa := (unhide hG').fr hfr2 (by
          rintro k (hk | hk | hk)
          · simp [BufS] at hk; omega
          · omega
          · have := ((unhide hR').row.lt k hk).1; omega) (by omega)
      have he2 := hG2.eof
      have q2 := eql_same wc ea
      have q0 := eql_nil wc ea
      have hPl : l2.length + P2.length ≤ 4198400 := by
        have h1 := congrArg List.length hPP
        rw [(unhide hR').pnd, pend_length (unhide hR').buf, List.length_append] at h1
        have := (unhide hR').buf.hn; have := (unhide hR').buf.hs; omega
      have hLA' := hide hLA
      have hsafe' := hide hsafe
      have hRd' := hide hRd
      have hfr2' := hide hfr2
      have hnew2' := hide hnew2
      have hPP' := hide hPP
      have hcs' := hide hcs
      have hl2b : l2.length ≤ 4198400 := by omega
      clear hLA hsafe hRd hfr2 hnew2 hPP hcs hG2 hb' hcase' hx' hcsv' hrow' hf1 c7
      go_upto_region 9 with fail
      go_cut [61] from 8 (fun b wx => wx = wc ∧ ((b = .bool false ∧ (u5 = .nilIface ∨ l2 = [])) ∨ (b = .bool true ∧ u5 = .iface 84 (.pointer (some ea)) ∧ l2 ≠ [])))
      case first =>
        by_cases hl0 : l2 = []
        · subst hl0
          go_wp2
          go_meet
          case rel => exact ⟨rfl, .inl ⟨by simp, .inr trivial⟩⟩
        · have hpos : 0 < l2.length := List.length_pos_iff.2 hl0
          have hposI : (0 : Int) < l2.length := by omega
          rcases unhide hcs' with ⟨rfl, -⟩ | ⟨rfl, -⟩
          · go_wp2
            go_meet
            case rel => exact ⟨rfl, .inl ⟨by simp, .inl trivial⟩⟩
          · go_wp2
            go_meet
            case rel => exact ⟨rfl, .inr ⟨by simp, by first | rfl | trivial, hl0⟩⟩
      case rest =>
        obtain ⟨hw, hb⟩ := hcut
        replace hw := hw.symm
        subst hw
        have hb' := hide hb
        clear hb
        go_upto_if 61 with fail
        go_cut [4, 5] from 8 (fun lv ev wr => LMid2 N s P ea fpr nl raw rec fi fp last w lv ev wr)
        case first =>
          have hmk : Hid (∀ (k : Nat) (ev : Value), k ≤ l2.length → ((P = [] ∧ l2.take k = [] ∧ P2 = [] ∧ ev = .iface 84 (.pointer (some ea))) ∨ (P ≠ [] ∧ ev = .nilIface ∧ ((∃ a, l2.take k = a ++ [10] ∧ (10 : UInt8) ∉ a ∧ P = l2.take k ++ P2) ∨ (l2.take k = Cs.norm P ∧ (10 : UInt8) ∉ l2.take k ∧ (10 : UInt8) ∉ P ∧ P2 = [])))) →
              LMid2 N s P ea fpr nl raw rec fi fp last w (.slice (some ⟨g, o2, none⟩) k c2) ev wc) := by
            intro k ev hk hc
            refine ⟨g, o2, c2, l2.take k, P2, raw2, i2, r2, n2, e2, bs2, pr2, lb2, lr2, off2, m2, xs2, by rw [List.length_take]; congr 1; omega, (unhide hLA').shorter k hk, fun hne => ?_, unhide hRd', unhide hfr2', unhide hnew2', hc⟩
            rcases unhide hsafe' (fun e => hne (by rw [e]; simp)) with h0 | h0
            · exact .inl ⟨h0.1, by rw [List.length_take]; omega⟩
            · exact .inr h0
          rcases unhide hb' with ⟨rfl, hor⟩ | ⟨rfl, rfl, hne⟩
          · have hor' := hide hor
            clear hor
            go_wp2
            go_meet
            case rel =>
              refine unhide hmk l2.length _ (Nat.le_refl _) ?_
              rw [List.take_length]
              rcases unhide hcs' with ⟨h0, a, h1, h2⟩ | ⟨h0, h1, h2⟩
              · exact .inr ⟨by rw [unhide hPP', h1]; simp, h0, .inl ⟨a, h1, h2, unhide hPP'⟩⟩
              · rcases unhide hor' with h3 | h3
                · rw [h3] at h0; cases h0
                · exact .inl ⟨by rw [unhide hPP', h3, h2]; rfl, h3, h2, h0⟩
          · obtain ⟨k, hk⟩ : ∃ k, l2.length = k + 1 := ⟨l2.length - 1, by have := List.length_pos_iff.2 hne; omega⟩
            obtain ⟨b, hb⟩ : ∃ b, l2[k]? = some b := ⟨l2[k]'(by omega), by simp⟩
            have hcell := (unhide hLA').byte hb
            have hkI : (l2.length : Int) - 1 = (k : Int) := by omega
            have hk2 := hide hk
            have hcap := (unhide hLA').cap
            have hec : Hid ((10 : UInt8) ∉ l2 ∧ P2 = []) := by
              rcases unhide hcs' with ⟨h0, _⟩ | ⟨_, h1, h2⟩
              · cases h0
              · exact ⟨h1, h2⟩
            have hPe : Hid (P = l2) := by rw [Hid, unhide hPP', (unhide hec).2]; simp
            have hlast : Hid (l2.getLast? = some b) := by rw [Hid, List.getLast?_eq_getElem?, hk]; simpa using hb
            have hklt : (k : Int) < l2.length := by omega
            have hkc : (k : Int) ≤ c2 := by omega
            by_cases h13 : b = 13
            · have hfin : Hid (l2.take k = Cs.norm P) := by
                rw [Hid, unhide hPe, Cs.norm_nolf l2 (unhide hec).1, unhide hlast, h13, if_pos rfl, List.dropLast_eq_take, hk]; rfl
              clear hb hk hne hb'
              subst h13
              go_wp2
              go_meet
              case rel => exact unhide hmk k _ (by have := unhide hk2; omega) (.inr ⟨by rw [unhide hPe]; intro e; have := unhide hk2; rw [e] at this; simp at this, rfl, .inr ⟨unhide hfin, fun h => (unhide hec).1 (List.mem_of_mem_take h), by rw [unhide hPe]; exact (unhide hec).1, (unhide hec).2⟩⟩)
            · have hfin : Hid (l2 = Cs.norm P) := by
                rw [Hid, unhide hPe, Cs.norm_nolf l2 (unhide hec).1, unhide hlast, if_neg (by simpa using h13)]
              have h13' : ¬ ((b.toNat : Int) = 13) := fun e => h13 (byte_eq _ 13 e)
              clear hb hk hne hb'
              go_wp2
              go_meet
              case rel =>
                refine unhide hmk l2.length _ (Nat.le_refl _) ?_
                rw [List.take_length]
                exact .inr ⟨by rw [unhide hPe]; intro e; have := unhide hk2; rw [e] at this; simp at this, rfl, .inr ⟨unhide hfin, (unhide hec).1, by rw [unhide hPe]; exact (unhide hec).1, (unhide hec).2⟩⟩
        case rest =>
          clear hb' hcs' hLA' hsafe' hRd' hfr2' hnew2' hPP' he2 q2 q0
          obtain ⟨g3, o3, c3, l3, P3, raw3, i3, r3, n3, e3, bs3, pr3, lb3, lr3, off3, m3, xs3, rfl, hLA, hsafe, hRd, hfr3, hnew3, hcs⟩ := hcut
          obtain ⟨_, _, _, _, _, _, _, k8, k9, _⟩ := hRd.csv.cells
          have kf8 := hRd.csv.frozen 8
          have kf9 := hRd.csv.frozen 9
          have hgne : l3 ≠ [] → g3 ≠ N + 3 := fun hne => by
            rcases hLA.blk hne with h0 | h0
            · omega
            · have := (hRd.row.lt _ h0).1; omega
          have hcap := hLA.cap
          have hLA' := hide hLA
          have hsafe' := hide hsafe
          have hRd' := hide hRd
          have hfr3' := hide hfr3
          have hnew3' := hide hnew3
          have hcs' := hide hcs
          have hgne' := hide hgne
          have hl3b : Hid (P.length ≤ 4198400) := by
            rw [Hid, (unhide hR').pnd, pend_length (unhide hR').buf]
            have := (unhide hR').buf.hn; have := (unhide hR').buf.hs; omega
          have hll : l3.length ≤ 4198400 := by
            have hb := unhide hl3b
            rcases hcs with ⟨_, h1, _⟩ | ⟨_, _, ⟨a, h1, h2, h3⟩ | ⟨h1, _⟩⟩
            · rw [h1]; simp
            · rw [h3, List.length_append] at hb; omega
            · rename_i h4
              rw [h1, Cs.norm_nolf P h4.2.1]
              split
              · rw [List.length_dropLast]; omega
              · exact hb
          clear hLA hsafe hRd hfr3 hnew3 hcs hgne
          go_upto_region 16 with fail
          go_cut [106] from 8 (fun b wx => (∃ x, wx = (wc.setCell ⟨N + 3, 8, none⟩ (.int .i64 ((nl : Int) + 1))).setCell ⟨N + 3, 9, none⟩ (.int .i64 x)) ∧ ((b = .bool false ∧ ∀ a, l3 ≠ a ++ [13, 10]) ∨ (b = .bool true ∧ ∃ a, l3 = a ++ [13, 10])))
          case first =>
            by_cases h2 : l3.length < 2
            · have hr : Hid (∀ a, l3 ≠ a ++ [13, 10]) := fun a he => by have := congrArg List.length he; simp at this; omega
              go_wp2
              go_meet
              case rel => exact ⟨⟨_, rfl⟩, .inl ⟨by simp, unhide hr⟩⟩
            · obtain ⟨k, hk⟩ : ∃ k, l3.length = k + 2 := ⟨l3.length - 2, by omega⟩
              obtain ⟨b1, hb1⟩ : ∃ b, l3[k]? = some b := ⟨l3[k]'(by omega), by simp⟩
              obtain ⟨b2, hb2⟩ : ∃ b, l3[k + 1]? = some b := ⟨l3[k + 1]'(by omega), by simp⟩
              have hl3 : l3 = l3.take k ++ [b1, b2] := by
                conv => lhs; rw [← List.take_append_drop k l3]
                congr 1
                obtain ⟨q1, q2⟩ := List.getElem?_eq_some_iff.1 hb1
                obtain ⟨q3, q4⟩ := List.getElem?_eq_some_iff.1 hb2
                rw [List.drop_eq_getElem_cons q1, List.drop_eq_getElem_cons q3, q2, q4, List.drop_of_length_le (by omega)]
              have hne : l3 ≠ [] := by rintro rfl; simp at hk
              have cb1 := (unhide hLA').byte hb1
              have cb2 := (unhide hLA').byte hb2
              have hgn := unhide hgne' hne
              have hgn2 : ¬ N + 3 = g3 := fun e => hgn e.symm
              have hkI1 : (l3.length : Int) - 2 = (k : Int) := by omega
              have hkI2 : (l3.length : Int) - 1 = ((k + 1 : Nat) : Int) := by omega
              have hlt1 : (k : Int) < l3.length := by omega
              have hlt2 : ((k + 1 : Nat) : Int) < l3.length := by omega
              have h2I : (2 : Int) ≤ l3.length := by omega
              have hl3' := hide hl3
              have hk' := hide hk
              clear hb1 hb2 hl3 hk h2 hne
              have hinj : Hid (∀ a, l3 = a ++ [13, 10] → b1 = 13 ∧ b2 = 10) := by
                intro a he
                rw [unhide hl3'] at he
                have := (List.append_inj' he rfl).2
                simpa using this
              by_cases h13 : b1 = 13
              · subst h13
                by_cases h10 : b2 = 10
                · subst h10
                  go_wp2
                  go_meet
                  case rel => exact ⟨⟨_, rfl⟩, .inr ⟨by simp, _, unhide hl3'⟩⟩
                · have h10' : ¬ ((b2.toNat : Int) = 10) := fun e => h10 (byte_eq _ 10 e)
                  go_wp2
                  go_meet
                  case rel => exact ⟨⟨_, rfl⟩, .inl ⟨by simp [h10'], fun a he => h10 (unhide hinj a he).2⟩⟩
              · have h13' : ¬ ((b1.toNat : Int) = 13) := fun e => h13 (byte_eq _ 13 e)
                go_wp2
                go_meet
                case rel => exact ⟨⟨_, rfl⟩, .inl ⟨by simp, fun a he => h13 (unhide hinj a he).1⟩⟩
          case rest =>
            obtain ⟨⟨x, hw⟩, hb⟩ := hcut
            obtain ⟨hRd4, hfr4⟩ := (unhide hRd').count x
            rw [← hw] at hRd4 hfr4
            clear hw
            have hLA4 := (unhide hLA').fr hfr4 (fun hne => unhide hgne' hne)
            have hfrA := hide ((unhide hfr3').trans hfr4 (fun _ _ h => .inr (.inl h)))
            have hLA4' := hide hLA4
            have hRd4' := hide hRd4
            clear k8 k9 kf8 kf9 hfr4 hLA4
            rcases hb with ⟨rfl, hb⟩ | ⟨rfl, a, hb⟩
            · have hb' := hide hb
              clear hb hRd4
              go_wp2
              go_ret2
              refine ⟨raw3, P3, l3, _, g3, o3, c3, rfl, unhide hLA4', ⟨_, _, _, _, _, _, _, _, _, _, _, unhide hRd4'⟩, unhide hfrA, unhide hnew3', ?_⟩
              rcases unhide hcs' with h0 | ⟨h0, h1, ⟨a, h2, h3, h4⟩ | ⟨h2, h3, h4, h5⟩⟩
              · exact .inl h0
              · refine .inr ⟨h0, h1, ?_, ?_⟩
                · rw [h4, h2, List.append_assoc]
                  simp only [List.singleton_append]
                  rw [Cs.cut_line a P3 h3, Cs.norm_line a h3, if_neg]
                  intro h13
                  obtain ⟨y, hy⟩ := List.getLast?_eq_some_iff.1 h13
                  exact unhide hb' y (by rw [h2, hy]; simp)
                · rw [h4, h2, List.append_assoc]
                  simp only [List.singleton_append]
                  rw [Cs.cut_line a P3 h3]
              · refine .inr ⟨h0, h1, ?_, ?_⟩
                · rw [Cs.cut_last P h4]; exact h2
                · rw [Cs.cut_last P h4]; exact h5
            · have hne : l3 ≠ [] := by rw [hb]; simp
              have hlen : l3.length = a.length + 2 := by rw [hb]; simp
              have hkI1 : (l3.length : Int) - 2 = (a.length : Int) := by omega
              have hkI2 : (l3.length : Int) - 1 = ((a.length + 1 : Nat) : Int) := by omega
              have hlt1 : (a.length : Int) < l3.length := by omega
              have hle2 : ((a.length + 1 : Nat) : Int) ≤ c3 := by omega
              have hblk : g3 = N + 2 ∨ raw3.ownBlock = some g3 := (unhide hLA').blk hne
              have hfz := hRd4.frozenAt g3 (o3 + a.length) hblk
              have cb1 := (unhide hLA4').byte (j := a.length) (b := 13) (by rw [hb]; simp)
              have hpk : Hid (RdS (wc.setCell ⟨g3, o3 + a.length, none⟩ (byteV 10)) N s P3 ea fpr (nl + 1) raw3 rec fi fp last) := hRd4.poke g3 (o3 + a.length) 10 (by
                rcases unhide hsafe' hne with h0 | h0
                · exact .inl ⟨h0.1, by omega⟩
                · exact .inr h0)
              have hb' := hide hb
              have hLA5 := hide (LineAt.poke (hb ▸ unhide hLA4') rfl)
              have hfrB : Hid (Fr (LineS N raw) w (wc.setCell ⟨g3, o3 + a.length, none⟩ (byteV 10))) := by
                refine (unhide hfrA).trans (fr_setCell _ _ _ _) (fun k hk h => ?_)
                subst h
                rcases hblk with h0 | h0
                · exact .inl (.inr (.inr h0))
                · rcases unhide hnew3' with h1 | ⟨g, h1, h2⟩
                  · exact .inr (.inr (h1 ▸ h0))
                  · rw [h0] at h1; simp at h1; omega
              clear hb hRd4 hlen hblk
              go_wp2
              go_ret2
              refine ⟨raw3, P3, a ++ [10], u5, g3, o3, c3, ?_, unhide hLA5, unhide hpk, unhide hfrB, unhide hnew3', ?_⟩
              · simp only [List.length_append, List.length_singleton]
                rfl
              · rcases unhide hcs' with h0 | ⟨h0, h1, ⟨a', h2, h3, h4⟩ | ⟨h2, h3, h4, h5⟩⟩
                · exact absurd h0.2.1 hne
                · have ha : a' = a ++ [13] := by
                    have := h2.symm.trans (unhide hb')
                    rw [show a ++ [13, 10] = (a ++ [13]) ++ [10] by simp] at this
                    exact (List.append_inj' this rfl).1
                  refine .inr ⟨h0, h1, ?_, ?_⟩
                  · rw [h4, h2, List.append_assoc]
                    simp only [List.singleton_append]
                    rw [Cs.cut_line a' P3 h3, Cs.norm_line a' h3, ha]
                    simp
                  · rw [h4, h2, List.append_assoc]
                    simp only [List.singleton_append]
                    rw [Cs.cut_line a' P3 h3]
                · exact absurd (by rw [unhide hb']; simp) h3
end Go.Proofs.Qxb6612546aFmt
