import Derived.Test.Qxb6612546aFmtRecU
import Derived.Test.Qxb6612546aFmtRecB
import Derived.Test.Qxb6612546aFmtRecW
import Derived.WalkMore
namespace Go.Proofs.Qxb6612546aFmt
open Go.RowKit

set_option maxRecDepth 100000 in
set_option maxHeartbeats 4000000 in
theorem readRecord_any (N : Nat) (s : ByteArray) (P : List UInt8) (ea fa : Addr) (fpr : Int) (nl : Nat) (raw rec fi fp : Value) (a0 : Option Addr) (n0 c0 : Nat) (w : World) (h : R0 w N s P ea fpr nl raw rec fi fp (.slice a0 n0 c0) (.slice a0 n0 c0))
    (hE : Env w N ea fa) (hnl : nl ≤ 900000000) (hfpr : 0 ≤ fpr ∧ fpr ≤ 1048576000) :
    Calls Tryf.prog 48 #[.pointer (some ⟨N + 3, 0, none⟩), .slice a0 n0 c0] w (RecPost N s P ea fpr nl raw rec fi fp (.slice a0 n0 c0) (.slice a0 n0 c0) w) := by
  obtain ⟨kr, xr, hr0⟩ := h.rrec
  obtain ⟨kf, xf, hf0⟩ := h.rfi
  obtain ⟨kp, xp, hp0⟩ := h.rfp
  obtain ⟨ar, cr, rfl⟩ := own_shapeN hr0
  obtain ⟨af, cf, rfl⟩ := own_shapeN hf0
  obtain ⟨ap, cp, rfl⟩ := own_shapeN hp0
  have hr0' := hide hr0
  have hf0' := hide hf0
  have hp0' := hide hp0
  clear hr0 hf0 hp0
  obtain ⟨M, hM⟩ : ∃ M, Cs.mach 4 [] [] 0 (nl + 1) (Cs.norm P) = M := ⟨_, rfl⟩
  obtain ⟨hPl, hNs⟩ := R0.bound h.rd
  have hrawN : Hid (∀ k, LineS N raw k → N ≤ k) := by
    rintro k (hk | hk | hk)
    · simp [BufS] at hk; omega
    · omega
    · have := (h.lies raw (by simp) k hk).1; omega
  have hst : Hid (L1 N s P ea fpr nl raw (.slice ar kr cr) (.slice af kf cf) (.slice ap kp cp) (.slice a0 n0 c0) M w (P.length + 1) w) := ⟨P, nl, raw, h.rd, Fr.refl _ _, .inl rfl, hM, by omega, Nat.le_refl _⟩
  have hM' := hide hM
  have h' := hide h
  have hE' := hide hE
  obtain ⟨i, r, n, e, bs, pr, lb, lr, off, m, xs, hR⟩ := h.rd
  obtain ⟨k0, k1, k2, k3, k4, k5, k7, k8, k9, k10, k11, k12, k13, k14⟩ := hR.csv.cells
  have hV := hide (fun wx => validDelim_comma wx)
  clear hM h hE hR k2 k3 k4 k5 k7 k8 k9 k10 k11 k12 k13 k14
  go_enter Tryf.func48, Tryf.ntmps48
  go_wp2
  go_step3
  go_wp2
  go_cut [55] from 24 to 55 (fun b wx => b = .bool false ∧ ∃ m, wx = w.drewN m)
  case first =>
    go_quiet (first | (go_at_call 52; refine Calls.quiet_of_same (unhide hV _)))
    go_wp2
    go_meet
    case rel => exact ⟨rfl, _, rfl⟩
  case rest =>
    obtain ⟨rfl, m0, rfl⟩ := hcut
    clear k0 k1 hV
    have HL : Hid (∀ (wx : World) (P1 : List UInt8) (nl1 : Nat) (raw1 : Value), RdS wx N s P1 ea fpr nl1 raw1 (.slice ar kr cr) (.slice af kf cf) (.slice ap kp cp) (.slice a0 n0 c0) → Env wx N ea fa → nl1 ≤ 1000000000 → Calls Tryf.prog 53 #[.pointer (some ⟨N + 3, 0, none⟩)] wx (LinePost N s P1 ea fpr nl1 raw1 (.slice ar kr cr) (.slice af kf cf) (.slice ap kp cp) (.slice a0 n0 c0) wx)) := fun wx P1 nl1 raw1 h1 h2 h3 => readLine_any N s P1 ea fa fpr nl1 raw1 (.slice ar kr cr) (.slice af kf cf) (.slice ap kp cp) (.slice a0 n0 c0) wx h1 h2.glob h3
    go_wp2
    go_loopg [7] (P.length + 1) (fun k ev wr => ev = .nilIface ∧ L1 N s P ea fpr nl raw (.slice ar kr cr) (.slice af kf cf) (.slice ap kp cp) (.slice a0 n0 c0) M w k wr)
    case atStart =>
      obtain ⟨P1, nl1, raw1, g1, g2, g3, g4, g5, g6⟩ := unhide hst
      exact ⟨rfl, P1, nl1, raw1, g1.fr (S := fun _ => False) (fdrew (Fr.refl _ _)) (fun _ _ _ e => e) (fun _ _ e => e), fdrew g2, g3, g4, g5, g6⟩
    case round =>
      obtain ⟨rfl, P1, nl1, raw1, hR1, hF1, hN1, hM1, hk1, hb1⟩ := hrel
      have hE1 : Env wr N ea fa := (unhide hE').fr hF1 (unhide hrawN) (by omega)
      have HL1 := hide (unhide HL wr P1 nl1 raw1 hR1 hE1 (by omega))
      have hR1' := hide hR1
      have hF1' := hide hF1
      have hN1' := hide hN1
      have hM1' := hide hM1
      clear hst hR1 hF1 hN1 hM1 hE1
      go_wp2_with fail
      refine (unhide HL1).mono ?_
      rintro en w2 ⟨raw2, P2, l2, ev2, g2, o2, c2, rfl, hLA, hRd2, hF2, hN2, hcs⟩
      have hE2 : Env w2 N ea fa := ((unhide hE').fr (unhide hF1') (unhide hrawN) (by omega)).fr hF2 (by
        rintro k (hk | hk | hk)
        · simp [BufS] at hk; omega
        · omega
        · obtain ⟨i, r, n, e, bs, pr, lb, lr, off, m, xs, hR⟩ := unhide hR1'
          have := (hR.row.lt k hk).1; omega) (by have := (unhide hF1').size; omega)
      obtain ⟨i2, r2, n2, e2, bs2, pr2, lb2, lr2, off2, m2, xs2, hRx⟩ := id hRd2
      obtain ⟨k0, k1, k2, k3, k4, k5, k7, k8, k9, k10, k11, k12, k13, k14⟩ := hRx.csv.cells
      have he0 := hE2.glob.eof
      have f11 := hRx.csv.frozen 11
      have f12 := hRx.csv.frozen 12
      have f13 := hRx.csv.frozen 13
      have hFa : Hid (Fr (LineS N raw) w w2) := (unhide hF1').trans hF2 (fun k hk hs => by
        rcases hs with e | e | e
        · exact .inl e
        · exact .inr (.inl e)
        · rcases unhide hN1' with e' | ⟨g, e', hg⟩
          · exact .inr (.inr (e' ▸ e))
          · rw [e] at e'; simp at e'; omega)
      have hNa : Hid (NewOr w raw raw2) := by
        rcases hN2 with e | ⟨g, e, hg⟩
        · rcases unhide hN1' with e' | ⟨g', e', hg'⟩
          · exact .inl (e.trans e')
          · exact .inr ⟨g', e.trans e', hg'⟩
        · exact .inr ⟨g, e, Nat.le_trans (unhide hF1').size hg⟩
      have hRd2' := hide hRd2
      have hLA' := hide hLA
      have hE2' := hide hE2
      have hPl1 := (R0.bound (unhide hR1')).1
      clear hRd2 hLA hE2 hF2 hN2 HL1 hRx k2 k3 k5 k7 k9 k10 k14 hN1' hF1' hR1'
      rcases hcs with ⟨hP1, rfl, hP2, rfl⟩ | ⟨hP1, rfl, hl2, hP2⟩
      · have q2 := fun m => eql_same (w2.drewN m) ea
        have hMe : Hid (M = ([], false)) := by rw [Hid, ← unhide hM1', hP1]; simp [Cs.norm, Cs.mach]
        clear hP1 hP2 k0 k4 k8 k11 k12 k13 f11 f12 f13
        go_wp2
        go_quiet (fail)
        go_wp2
        go_ret2
        refine ⟨_, _, _, _, _, rfl, rfl, ?_, ((unhide hRd2').fr (S := fun _ => False) (fdrew (Fr.refl _ _)) (fun _ _ _ e => e) (fun _ _ e => e)).csv, .inl ⟨(unhide hM').trans (unhide hMe), rfl, rfl⟩⟩
        refine fdrew ((unhide hFa).mono (fun k hk hs => ?_))
        rcases hs with e | e | e
        · exact .inl (by simp [BufS] at e; omega)
        · exact .inl (by omega)
        · exact .inr ⟨raw, by simp, e⟩
      · have hl2' := hide hl2
        have hP1' := hide hP1
        have hP2' := hide hP2
        obtain ⟨hs1, hs2, hs3⟩ := Cs.line_shape P1 hP1
        rw [← hl2, ← hP2] at hs3
        rw [← hP2] at hs2
        have hs3' := hide hs3
        have hllen : l2.length ≤ 4198400 := by rw [hl2]; exact Nat.le_trans (Cs.line_length P1) hPl1
        have HN := hide (fun m => lengthNL_any (some ⟨g2, o2, none⟩) c2 l2.length l2 (w2.drewN m) rfl (unhide hLA').bytes (by omega))
        have q0 := fun m => eql_nil (w2.drewN m) ea
        clear hl2 hP1 hP2 hs1 hs3
        by_cases hbl : l2 = [] ∨ l2 = [10]
        · have hbe : (l2.length : Int) = (nlOf l2 : Int) := by have := (nlOf_eq (unhide hs3')).2 hbl; omega
          have hMb : Hid (Cs.mach 4 [] [] 0 (nl1 + 1 + 1) (Cs.norm P2) = M) := by
            rw [Hid, ← unhide hM1', unhide hP2']
            exact (Cs.mach4_blank (unhide hP1') (by rw [← unhide hl2']; exact hbl) _).symm
          clear hbl
          go_wp2
          go_quiet (fail)
          go_wp2_with fail
          refine (unhide HN _).mono ?_
          rintro en w3 ⟨rfl, hw⟩
          replace hw := hw.symm
          subst hw
          go_wp2
          go_roundg (P2.length + 1)
          case measure => omega
          case rel =>
            exact ⟨rfl, P2, nl1 + 1, raw2, (unhide hRd2').fr (S := fun _ => False) (fdrew (Fr.refl _ _)) (fun _ _ _ e => e) (fun _ _ e => e), fdrew (unhide hFa), unhide hNa, unhide hMb, by omega, by omega⟩
        · have hbe : ¬ ((l2.length : Int) = (nlOf l2 : Int)) := by
            intro e
            exact hbl ((nlOf_eq (unhide hs3')).1 (by omega))
          have hMs : Hid (Cs.mach 0 [] [] (nl1 + 1) (nl1 + 1) (l2 ++ Cs.norm P2) = M) := by
            rw [Hid, ← unhide hM1', unhide hP2', unhide hl2']
            exact (Cs.mach4_start (unhide hP1') (by rw [← unhide hl2']; exact fun e => hbl (.inl e)) (by rw [← unhide hl2']; exact fun e => hbl (.inr e)) _).symm
          have HRL := hide (fun m => Tryf.utf8_RuneLen 44 (w2.drewN m))
          have hrl : Lib.runeLen 44 = 1 := by decide
          clear hbl
          go_wp2
          go_quiet (fail)
          go_wp2_with fail
          refine (unhide HN _).mono ?_
          rintro en w3 ⟨rfl, hw⟩
          replace hw := hw.symm
          subst hw
          clear HN
          go_wp2_with fail
          refine (unhide HRL _).mono ?_
          rintro en w3 ⟨rfl, hw⟩
          replace hw := hw.symm
          subst hw
          clear HRL
          go_wp2
          have hS0 := hide (St.start (unhide h') (unhide hr0') (unhide hf0') (unhide hp0') (unhide hRd2') (unhide hFa) (unhide hNa) nq ((nl1 : Int) + 1) (by simp))
          have hL0 : Hid (LineAt (((((w2.drewN nq).setCell ⟨N + 3, 11, none⟩ (.slice ar 0 cr)).setCell ⟨N + 3, 12, none⟩ (.slice af 0 cf)).setCell ⟨N + 3, 13, none⟩ (.slice ap 0 cp)).alloc (.cells #[.int .i64 ((nl1 : Int) + 1), .int .i64 1] 82)) N raw2 g2 o2 c2 l2) := by
            have hFW : Fr (fun k => k = N + 3) w2 (((((w2.drewN nq).setCell ⟨N + 3, 11, none⟩ (.slice ar 0 cr)).setCell ⟨N + 3, 12, none⟩ (.slice af 0 cf)).setCell ⟨N + 3, 13, none⟩ (.slice ap 0 cp)).alloc (.cells #[.int .i64 ((nl1 : Int) + 1), .int .i64 1] 82)) :=
              ((((fdrew (Fr.refl _ _)).trans (fr_setCell _ _ _ _) (fun _ _ h => h)).trans (fr_setCell _ _ _ _) (fun _ _ h => h)).trans (fr_setCell _ _ _ _) (fun _ _ h => h)).trans (Fr.of_below (S := fun k => k = N + 3) ((Below.refl _ _).alloc (Nat.le_refl _) _)) (fun _ _ h => h)
            refine (unhide hLA').fr hFW (fun hne e => ?_)
            rcases (unhide hLA').blk hne with h0 | h0
            · omega
            · obtain ⟨i, r, n, e', bs, pr, lb, lr, off, m, xs, hR⟩ := unhide hRd2'
              have := (hR.row.lt g2 h0).1; omega
          have hBb := hide (show nl1 + 1 + P2.length ≤ nl + P.length by omega)
          have hpbs := hide (show w2.heap.size < (((((w2.drewN nq).setCell ⟨N + 3, 11, none⟩ (.slice ar 0 cr)).setCell ⟨N + 3, 12, none⟩ (.slice af 0 cf)).setCell ⟨N + 3, 13, none⟩ (.slice ap 0 cp)).alloc (.cells #[.int .i64 ((nl1 : Int) + 1), .int .i64 1] 82)).heap.size by simp)
          generalize (((((w2.drewN nq).setCell ⟨N + 3, 11, none⟩ (.slice ar 0 cr)).setCell ⟨N + 3, 12, none⟩ (.slice af 0 cf)).setCell ⟨N + 3, 13, none⟩ (.slice ap 0 cp)).alloc (.cells #[.int .i64 ((nl1 : Int) + 1), .int .i64 1] 82)) = W at hS0 hL0 hpbs ⊢
          obtain ⟨pb, hpb⟩ : ∃ pb, w2.heap.size = pb := ⟨_, rfl⟩
          rw [hpb] at hS0 hpbs ⊢
          clear k0 k1 k4 k8 k11 k12 k13 f11 f12 f13 he0 q0 hbe hrl hpb hE2' hLA' hRd2' hFa hNa hpbs
          have hcast : ((nl1 : Int) + 1) = ((nl1 + 1 : Nat) : Int) := by omega
          rw [hcast]
          generalize nl1 + 1 = rl at hS0 hMs hBb ⊢
          go_step3
          go_wp2
          rename_i K hK
          have hTb : l2.length + P2.length ≤ 8396800 := by omega
          obtain ⟨rows0, hrows0⟩ : ∃ rows0, [raw, Value.slice ar kr cr, .slice af kf cf, .slice ap kp cp, .slice a0 n0 c0] = rows0 := ⟨_, rfl⟩
          rw [hrows0] at hS0
          have hrowsN : Hid (∀ k, OwnS N [raw, Value.slice ar kr cr, .slice af kf cf, .slice ap kp cp, .slice a0 n0 c0] k → N ≤ k) := by
            rintro k (h0 | ⟨v, hv, h0⟩)
            · omega
            · have := ((unhide h').lies v hv k h0).1; omega
          have hrest : ∀ (a : Act) (W : World), (∃ lv e8 f, a = fr2 N a0 n0 c0 lv e8 rl pb f ∧ RE N s ea fpr M w rows0 (.slice a0 n0 c0) pb rl (nl + P.length) (l2.length + P2.length) e8 W) → K a W := by
            rintro a W ⟨lv, e8, f, rfl, hRE⟩
            apply hK
            rw [← hrows0] at hRE
            exact rest48 N s P ea fa fpr nl raw (.slice ar kr cr) (.slice af kf cf) (.slice ap kp cp) a0 n0 c0 w M pb rl (l2.length + P2.length) lv e8 f W (unhide hM') hTb (unhide hE') (unhide hrowsN) (by omega) hfpr hRE
          clear hK
          refine wp_loop_ghost_k (fun k a w' => ∃ lv f, a = fr2 N a0 n0 c0 lv .nilIface rl pb f ∧ R2 N s ea fpr M w rows0 (.slice a0 n0 c0) pb rl (nl + P.length) (l2.length + P2.length) k lv w') (l2.length + P2.length + 1) ?_ ?_
          · refine start_fr2 (.slice (some ⟨g2, o2, none⟩) l2.length c2) (by rfl) ?_
            exact ⟨P2, l2, rl, raw2, _, _, _, g2, o2, c2, [], rfl, unhide hL0, unhide hs3', unhide hS0, unhide hMs, by omega, unhide hBb, by simp⟩
          · rintro gk a wr ⟨lv, f, rfl, P3, cur, nl3, raw3, rec3, fi3, fp3, g3, o3, c3, fs, rfl, hLA3, hok3, hS3, hM3, hk3, hB3, hT3⟩ J K2 hJ hK2
            have hc3 : Hid (∀ a w' k', k' < gk → (∃ lv f, a = fr2 N a0 n0 c0 lv .nilIface rl pb f ∧ R2 N s ea fpr M w rows0 (.slice a0 n0 c0) pb rl (nl + P.length) (l2.length + P2.length) k' lv w') → K2 a w') := by
              rintro a w' k' hk' h
              exact hK2 _ _ (Handed.intro k' hk' (hJ _ _ _ h))
            have hrest' := hide hrest
            rw [hrows0] at hrowsN
            have hE3 := hide ((unhide hE').fr hS3.fr (unhide hrowsN) (by omega))
            obtain ⟨i3, r3, n3, e3, bs3, pr3, lb3, lr3, off3, m3, xs3, hRx3⟩ := id hS3.rd
            obtain ⟨_, _, _, _, k4, _, _, _, _, _, _, _, _, _⟩ := hRx3.csv.cells
            have hLA3' := hide hLA3
            have hok3' := hide hok3
            have hS3' := hide hS3
            have hM3' := hide hM3
            have hcl : cur.length ≤ 8396800 := by omega
            clear hS0 hL0 hMs hs3' hBb hJ hK2 hrest hLA3 hok3 hS3 hM3 hRx3 hrows0
            unfold fr2
            go_upto_region 27 with fail
            go_cut [6, 161] from 129 to 161 (fun lv b wx => lv = .slice (some ⟨g3, o3, none⟩) cur.length c3 ∧ wx = wr ∧ ((b = .bool true ∧ cur.head? ≠ some 34) ∨ (b = .bool false ∧ ∃ t, cur = 34 :: t)))
            case first =>
              cases hcur : cur with
              | nil =>
                go_wp2
                go_meet
                case rel => exact ⟨by simp [hcur], rfl, .inl ⟨by simp, by simp [hcur]⟩⟩
              | cons b t =>
                have hcb := (unhide hLA3').byte (j := 0) (b := b) (by rw [hcur]; rfl)
                rw [Nat.add_zero] at hcb
                have hlen0 : (0 : Int) < (cur.length : Int) := by rw [hcur]; simp
                have hl0 : ¬ cur.length = 0 := by rw [hcur]; simp
                have hcur' := hide hcur
                rw [← hcur]
                by_cases h34 : b = 34
                · subst h34
                  clear hcur
                  go_wp2
                  go_meet
                  case rel => exact ⟨by simp, rfl, .inr ⟨by simp [List.length_pos_iff.1 (Nat.pos_of_ne_zero hl0)], t, unhide hcur'⟩⟩
                · have hb34 : ¬ ((b.toNat : Int) = 34) := fun e => h34 (byte_eq b 34 e)
                  clear hcur
                  go_wp2
                  go_meet
                  case rel => exact ⟨by simp, rfl, .inl ⟨by simp [hb34], by rw [unhide hcur']; simpa using h34⟩⟩
            case rest =>
              obtain ⟨rfl, hw, hb⟩ := hcut
              replace hw := hw.symm
              subst hw
              clear k4
              rcases hb with ⟨rfl, hq⟩ | ⟨rfl, t, hq⟩
              · have hq' := hide hq
                clear hq
                go_upto_if 161 with fail
                refine wp_cond_true rfl ?_
                refine to_fr2 (.slice (some ⟨g3, o3, none⟩) cur.length c3) .nilIface (by rfl) (fun f' => ?_)
                exact bare48 K2 K _ N s ea fa fpr M w rows0 a0 n0 c0 pb rl (nl + P.length) (l2.length + P2.length) gk wr f' P3 cur nl3 raw3 rec3 fi3 fp3 g3 o3 c3 fs (unhide hLA3') (unhide hok3') (unhide hS3') (unhide hM3') hk3 hB3 hT3 hTb (unhide hE3) (unhide hq') (unhide hc3) (unhide hrest')
              · have hq' := hide hq
                clear hq
                go_upto_if 161 with fail
                refine wp_cond_false rfl ?_
                refine to_fr2 (.slice (some ⟨g3, o3, none⟩) cur.length c3) .nilIface (by rfl) (fun f' => ?_)
                exact quot48 K2 K _ N s ea fa fpr M w rows0 a0 n0 c0 pb rl (nl + P.length) (l2.length + P2.length) gk wr f' P3 cur t nl3 raw3 rec3 fi3 fp3 g3 o3 c3 fs (unhide hLA3') (unhide hok3') (unhide hq') (unhide hS3') (unhide hM3') hk3 hB3 hT3 hTb (by omega) (unhide hE') (unhide hrowsN) (by omega) (unhide hc3) (unhide hrest')
end Go.Proofs.Qxb6612546aFmt
