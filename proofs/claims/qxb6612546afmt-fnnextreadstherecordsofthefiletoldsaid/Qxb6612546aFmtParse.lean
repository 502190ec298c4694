import Derived.Test.Qxb6612546aFmtParseP
namespace Go.Proofs.Qxb6612546aFmt
open Go.RowKit

theorem take_one_more {l : List UInt8} {p q : Nat} {c0 : UInt8} (hdr : l.drop q = c0 :: l.drop (q + 1)) (hpq : p ≤ q) : (l.drop p).take (q + 1 - p) = (l.drop p).take (q - p) ++ [c0] := by
  have hlt : q < l.length := by
    rcases Nat.lt_or_ge q l.length with h | h
    · exact h
    · rw [List.drop_of_length_le h] at hdr; simp at hdr
  have h0 : l[q] = c0 := by rw [List.drop_eq_getElem_cons hlt] at hdr; exact (List.cons.inj hdr).1
  rw [show q + 1 - p = (q - p) + 1 by omega, List.take_succ_eq_append_getElem (by simp; omega)]
  congr 2
  rw [List.getElem_drop]
  simp only [show p + (q - p) = q by omega]
  exact h0

set_option maxRecDepth 100000 in
set_option maxHeartbeats 8000000 in
theorem parse_any (a : Option Addr) (n c : Nat) (l : List UInt8) (w : World) (hn : n ≤ 1048576) (hl : l.length = n) (hnc : n ≤ c) (hby : BytAt w a l) :
    Calls Tryf.prog 10 #[.slice a n c] w (ParsePost l w) := by
  obtain ⟨i9, hi9, hi90, hi91, hi92⟩ := info_parts Tryf.info9
  obtain ⟨i5, hi5, hi50, hi51, hi52⟩ := info_parts Tryf.info5
  obtain ⟨i22, hi22, hi220, hi221, hi222⟩ := info_parts Tryf.info22
  obtain ⟨i3, hi3, hi30, hi31, hi32⟩ := info_parts Tryf.info3
  have hby' := hide hby
  have hl' := hide hl
  clear hby hl
  go_enter Tryf.func10, Tryf.ntmps10
  go_wp2
  go_loopw [5, 6, 7, 8] (fun rv sv pv lv wr => ∃ p ln : Nat, p ≤ n ∧ ln ≤ p + 1 ∧ pv = .int .i64 p ∧ lv = .int .i64 ln ∧ P1 l w rv sv p ln wr) (fun _ _ pv _ _ => n - (intOf pv).toNat)
  case atStart => exact ⟨0, 1, Nat.zero_le _, by omega, rfl, rfl, [], [], RS.nil w, by simp, by simp⟩
  case round =>
    obtain ⟨p, ln, hp, hlp, rfl, rfl, R, us, hRS, hRp, hM⟩ := hrel
    have hRS' := hide hRS
    have hM' := hide hM
    have hRp' := hide hRp
    clear hRS hM hRp
    by_cases hpn : p < n
    · have hpl : p < l.length := by rw [unhide hl']; exact hpn
      obtain ⟨ab, ao, rfl, cx⟩ := byt_at (byt_below (unhide hby') ((unhide hRS').bel)) hpl
      have hdr := hide (drop_at hpl)
      obtain ⟨c0, hc0⟩ : ∃ c0, c0 = l[p] := ⟨_, rfl⟩
      rw [← hc0] at cx
      have hdr0 : Hid (l.drop p = c0 :: l.drop (p + 1)) := by rw [Hid, unhide hdr, hc0]
      clear hdr hc0
      by_cases h10 : c0 = 10
      · have hM2 : Hid ((R ++ (Cs.mach 4 [] [] 0 (ln + 1) (l.drop (p + 1))).1, (Cs.mach 4 [] [] 0 (ln + 1) (l.drop (p + 1))).2) = Cs.mach 4 [] [] 0 1 l) := by
          rw [Hid, ← unhide hM', unhide hdr0, h10, Cs.mach4_lf]
        subst h10
        clear hM' hdr0
        go_wp2
        go_roundw
        case rel => exact ⟨p + 1, ln + 1, by omega, by omega, by go_num, by go_num, R, us, unhide hRS', by have := unhide hRp'; omega, unhide hM2⟩
        case measure => simp [intOf]; omega
      · have h10' : ¬ ((c0.toNat : Int) = 10) := fun e => h10 (byte_eq _ 10 e)
        obtain ⟨K, hK⟩ : ∃ K, K = Cs.mach 0 [] [] ln ln (l.drop p) := ⟨_, rfl⟩
        have hM2 : Hid ((R ++ K.1, K.2) = Cs.mach 4 [] [] 0 1 l) := by
          rw [Hid, ← unhide hM', hK, unhide hdr0, Cs.mach4_go _ _ _ _ _ _ h10]
        have hK' := hide hK
        clear hM' hdr0 hK
        obtain ⟨p0, hp0⟩ : ∃ q, q = p := ⟨_, rfl⟩
        have hp0n : p0 < n := by omega
        have hst0 : Hid (P2 l K ln p0 wr (.slice none 0 0) false p ln wr) := ⟨[], ⟨rfl, .inl ⟨rfl, rfl⟩⟩, Below.refl _ _, by omega, by simp, .inr ⟨rfl, (unhide hK').symm, by simp⟩⟩
        have hp0' := hide hp0
        clear hp0 hK' h10
        obtain ⟨wr0, hwr0⟩ : ∃ q, q = wr := ⟨_, rfl⟩
        rw [← hwr0] at hst0
        have hwr0' := hide hwr0
        clear hwr0
        have hbeq : ((c0.toNat : Int) == 10) = false := by rw [beq_eq_false_iff_ne]; exact h10'
        go_wp2
        go_loopw [7, 8, 10, 11] (fun pv lv v dv wr => ∃ (p ln' : Nat) (d : Bool), p ≤ n ∧ ln' ≤ p + 1 ∧ pv = .int .i64 p ∧ lv = .int .i64 ln' ∧ dv = .bool d ∧ P2 l K ln p0 wr0 v d p ln' wr) (fun pv _ _ dv _ => 2 * (n - (intOf pv).toNat) + bN dv)
        case atStart => exact ⟨p, ln, false, hp, hlp, rfl, rfl, rfl, by rw [← unhide hwr0']; exact unhide hst0⟩
        case round =>
          clear hst0 cx
          rw [← unhide hwr0'] at hRS'
          obtain ⟨p, ln', d, hp, hlp', rfl, rfl, rfl, fs, ho, hb, hpp, hfl, hcs⟩ := hrel
          have ho' := hide ho
          have hb' := hide hb
          have hbs := hb.size
          have hbyr := hide (byt_below (unhide hby') ((unhide hRS').bel.trans (hb.mono (unhide hRS').bel.size)))
          clear ho hb
          rcases hcs with ⟨rfl, hKe, hp0p⟩ | ⟨rfl, hKe, hfl2⟩
          · have hM3 : Hid (((R ++ [(fs, ln)]) ++ (Cs.mach 4 [] [] 0 ln' (l.drop p)).1, (Cs.mach 4 [] [] 0 ln' (l.drop p)).2) = Cs.mach 4 [] [] 0 1 l) := by
              rw [Hid, ← unhide hM2, hKe]; simp
            clear hKe hM2
            obtain ⟨va, vc, rfl⟩ := own_shapeN (unhide ho')
            have hRS2 := hide ((unhide hRS').below (unhide hb'))
            obtain ⟨ks, hks⟩ : ∃ ks, ks = R.map fun r => intV r.2 := ⟨_, rfl⟩
            have hst2 : Hid (wr.ownsRow w.heap.size 3 1 u6 R.length ks) := by rw [Hid, hks]; exact (unhide hRS2).starts
            have hks' := hide hks
            have hws := (unhide hRS2).bel.size
            have hRb : R.length ≤ 1048576 := by have := unhide hRp'; omega
            have hfb : fs.length ≤ 1048577 := by omega
            clear hks
            go_wp2_with (at_builtin; refine wpList_append_where _ rfl _ _ 25 rfl w.heap.size 22 i22 (.slice none 0 0) 1 24 Tryf.underlying25 hi22 hi220 hi221 hi222 rfl (by decide) _ R.length us rfl ((unhide hRS2).rows.alloc _) ⟨wr.heap.size, 0, none⟩ 1 1 [.slice va fs.length vc] rfl rfl (cell_one_new _ _ _) (by simp [Value.oneCell']) (by unfold maxLen; omega) (by omega) (by rw [size_alloc']; omega) ?_)
            intro v5 w5 hown5 hgrow5 _ hwh5
            have hF1 : Fr (fun k => u5.ownBlock = some k) wr w5 := (Fr.of_below (S := fun k => u5.ownBlock = some k) ((Below.refl _ wr).alloc (Nat.le_refl _) _)).trans (fr_grown hgrow5) (fun _ _ e => e)
            have hst3 := hide (Fr.own (unhide hst2) hF1 (fun g hg e => (unhide hRS2).sep g e hg))
            have hs5 := hF1.size
            have hown5' := hide hown5
            have hgrow5' := hide hgrow5
            have hwh5' := hide hwh5
            clear hown5 hgrow5 hwh5 hF1 hst2
            go_wp2_with (at_builtin; refine wpList_append_where _ rfl _ _ 26 rfl w.heap.size 3 i3 (.int .i64 0) 1 8 Tryf.underlying26 hi3 hi30 hi31 hi32 rfl (by decide) _ R.length ks rfl ((unhide hst3).alloc _) ⟨w5.heap.size, 0, none⟩ 1 1 [intV ln] rfl rfl (cell_one_new _ _ _) (by simp [Value.oneCell', intV]) (by unfold maxLen; omega) (by omega) (by rw [size_alloc']; omega) ?_)
            intro v6 w6 hown6 hgrow6 _ hwh6
            have hnew : Hid (RS w (R ++ [(fs, ln)]) (us ++ [.slice va fs.length vc]) v5 v6 w6) :=
              (unhide hRS').step (unhide hb') (unhide ho') _ _ (unhide hown5') (unhide hgrow5') (unhide hwh5') (by rw [unhide hks'] at hown6; exact hown6) hgrow6 (by first | exact hwh6 | simpa [size_alloc'] using hwh6)
            clear hown6 hgrow6 hwh6 hown5' hgrow5' hwh5' hst3
            go_wp2
            go_roundw
            case rel => exact ⟨p, ln', by omega, by omega, rfl, rfl, R ++ [(fs, ln)], _, unhide hnew, by have := unhide hRp'; have := unhide hp0'; simp; omega, unhide hM3⟩
            case measure => have := unhide hp0'; simp [intOf]; omega
          · have hKe' := hide hKe
            clear hKe
            go_upto_region 13 with fail
            go_cut [42] from 32 to 42 (fun b wx => wx = wr ∧ ((b = .bool true ∧ p < n ∧ l.drop p = 34 :: l.drop (p + 1)) ∨ (b = .bool false ∧ (l.drop p).head? ≠ some 34)))
            case first =>
              by_cases hpn2 : p < n
              · have hpl : p < l.length := by rw [unhide hl']; exact hpn2
                obtain ⟨_, _, e1, cx⟩ := byt_at (unhide hbyr) hpl
                cases e1
                have hdr := hide (drop_at hpl)
                obtain ⟨c0, hc0⟩ : ∃ c0, c0 = l[p] := ⟨_, rfl⟩
                rw [← hc0] at cx
                have hdr0 : Hid (l.drop p = c0 :: l.drop (p + 1)) := by rw [Hid, unhide hdr, hc0]
                clear hdr hc0
                by_cases h34 : c0 = 34
                · subst h34
                  go_wp2
                  go_meet
                  case rel => exact ⟨by first | rfl | simp, .inl ⟨by simp, hpn2, unhide hdr0⟩⟩
                · have h34' : ¬ ((c0.toNat : Int) = 34) := fun e => h34 (byte_eq _ 34 e)
                  go_wp2
                  go_meet
                  case rel => exact ⟨by first | rfl | simp, .inr ⟨by simp [h34'], by rw [unhide hdr0]; simpa using h34⟩⟩
              · have hnil : Hid (l.drop p = []) := List.drop_of_length_le (by rw [unhide hl']; omega)
                go_wp2
                go_meet
                case rel => exact ⟨by first | rfl | simp, .inr ⟨by simp, by rw [unhide hnil]; simp⟩⟩
            case rest =>
              obtain ⟨hw, hq⟩ := hcut
              replace hw := hw.symm
              subst hw
              rcases hq with ⟨rfl, hpn2, hdr⟩ | ⟨rfl, hdr⟩
              · have hwF : ∃ q, q = wr := ⟨_, rfl⟩
                obtain ⟨wF, hwF⟩ := hwF
                have hKq : Hid (Cs.mach 2 [] fs ln ln' (l.drop (p + 1)) = K) := by rw [Hid, ← unhide hKe', hdr, Cs.mach0_quote]
                have hwF' := hide hwF
                clear hwF hdr hKe'
                go_wp2
                go_loopw [7, 8, 12, 13] (fun pv lv v dv wq => ∃ (q lq : Nat) (d : Bool), q ≤ n ∧ lq ≤ q + 1 ∧ pv = .int .i64 q ∧ lv = .int .i64 lq ∧ dv = .bool d ∧ P3 l K fs ln p wF v d q lq wq) (fun pv _ _ dv _ => 2 * (n - (intOf pv).toNat) + bN dv)
                case atStart => exact ⟨p + 1, ln', false, by omega, by omega, by go_num, rfl, rfl, [], ⟨rfl, .inl ⟨rfl, rfl⟩⟩, by rw [unhide hwF']; exact Below.refl _ _, by omega, by simp, .inr ⟨rfl, unhide hKq⟩⟩
                case round =>
                  obtain ⟨wq, hwq⟩ : ∃ q, q = wr := ⟨_, rfl⟩
                  subst hwq
                  clear hKq
                  obtain ⟨q, lq, d, hqn, hlq, rfl, rfl, rfl, acc, ho3, hb3, hpq, hacc, hcs⟩ := hrel
                  have hfw : Hid (wF.ownsRow wr0.heap.size 9 1 u10 fs.length ((strsOf fs).map Value.string) ∧ Below wr0.heap.size wr0 wF ∧ BytAt wF (some ⟨ab, ao, none⟩) l) := by
                    rw [Hid, unhide hwF']; exact ⟨unhide ho', unhide hb', unhide hbyr⟩
                  have hbyq := hide (byt_below (unhide hfw).2.2 hb3)
                  have hfs := (unhide hfw).2.1.size
                  have hb3s := hb3.size
                  have ho3' := hide ho3
                  have hb3' := hide hb3
                  clear ho3 hb3
                  rcases hcs with ⟨rfl, hKe, hnq⟩ | ⟨rfl, hKe⟩
                  · have hKe' := hide hKe
                    have hnq' := hide hnq
                    obtain ⟨sv9, hsv9⟩ : ∃ sv9 : ByteArray, sv9 = ⟨acc.toArray⟩ := ⟨_, rfl⟩
                    have hconv := conv_own (unhide ho3')
                    rw [← hsv9] at hconv
                    obtain ⟨SS, hSS⟩ : ∃ SS, SS = (strsOf fs).map Value.string := ⟨_, rfl⟩
                    have hrow : Hid (wq.ownsRow wr0.heap.size 9 1 u10 fs.length SS) := by rw [Hid, hSS]; exact Fr.own (unhide hfw).1 (Fr.of_below (S := fun _ => False) (unhide hb3')) (fun _ _ h => h)
                    have hbw : Hid (Below wr0.heap.size wr0 wq) := (unhide hfw).2.1.trans ((unhide hb3').mono hfs)
                    have hSS' := hide hSS
                    have hsv9' := hide hsv9
                    clear hKe hnq hSS hsv9
                    go_wp2_with (at_builtin; refine wpList_append_where _ rfl _ _ 22 rfl wr0.heap.size 9 i9 (.string ⟨#[]⟩) 1 16 Tryf.underlying22 hi9 hi90 hi91 hi92 rfl (by decide) _ fs.length SS rfl ((unhide hrow).alloc _) ⟨wq.heap.size, 0, none⟩ 1 1 [.string sv9] rfl rfl (cell_one_new _ _ _) (by simp [Value.oneCell']) (by unfold maxLen; omega) (by omega) (by rw [size_alloc']; omega) ?_)
                    intro v6 w6 hown6 hgrow6 _ _
                    have hnew := hide (rec_step (acc := acc) (by rw [← unhide hSS']; exact unhide hrow) (unhide hbw) _ (by rw [← unhide hSS', ← unhide hsv9']; exact hown6) hgrow6)
                    have hbyw := hide (byt_below (unhide hby') ((unhide hRS').bel.trans ((unhide hnew).2.mono (unhide hRS').bel.size)))
                    clear hown6 hgrow6 hconv hrow hSS' hsv9'
                    by_cases hqn2 : q < n
                    · have hpl : q < l.length := by rw [unhide hl']; exact hqn2
                      obtain ⟨_, _, e1, cx⟩ := byt_at (unhide hbyw) hpl
                      cases e1
                      have hdr := hide (drop_at hpl)
                      obtain ⟨c0, hc0⟩ : ∃ c0, c0 = l[q] := ⟨_, rfl⟩
                      rw [← hc0] at cx
                      have hdr0 : Hid (l.drop q = c0 :: l.drop (q + 1)) := by rw [Hid, unhide hdr, hc0]
                      clear hdr hc0
                      by_cases h44 : c0 = 44
                      · subst h44
                        have hK2 : Hid (Cs.mach 0 [] (fs ++ [acc]) ln lq (l.drop (q + 1)) = K) := by rw [Hid, ← unhide hKe', unhide hdr0, Cs.mach3_comma]
                        go_wp2
                        go_roundw
                        case rel => exact ⟨q + 1, lq, false, by omega, by omega, by go_num, rfl, rfl, fs ++ [acc], (unhide hnew).1, (unhide hnew).2, by omega, by simp; omega, .inr ⟨rfl, unhide hK2, by simp; omega⟩⟩
                        case measure => simp [intOf, bN]; omega
                      · have h44' : ¬ ((c0.toNat : Int) = 44) := fun e => h44 (byte_eq _ 44 e)
                        by_cases h10 : c0 = 10
                        · subst h10
                          have hK2 : Hid (K = ((fs ++ [acc], ln) :: (Cs.mach 4 [] [] 0 (lq + 1) (l.drop (q + 1))).1, (Cs.mach 4 [] [] 0 (lq + 1) (l.drop (q + 1))).2)) := by rw [Hid, ← unhide hKe', unhide hdr0, Cs.mach3_lf]
                          go_wp2
                          go_roundw
                          case rel => exact ⟨q + 1, lq + 1, true, by omega, by omega, by go_num, by go_num, rfl, fs ++ [acc], (unhide hnew).1, (unhide hnew).2, by omega, by simp; omega, .inl ⟨rfl, unhide hK2, by omega⟩⟩
                          case measure => simp [intOf, bN]; omega
                        · have h10' : ¬ ((c0.toNat : Int) = 10) := fun e => h10 (byte_eq _ 10 e)
                          have h34 : c0 ≠ 34 := fun e => unhide hnq' (by rw [unhide hdr0, e]; rfl)
                          have hbad : Hid (R = (Cs.mach 4 [] [] 0 1 l).1 ∧ (Cs.mach 4 [] [] 0 1 l).2 = true) := by
                            rw [Hid, ← unhide hM2, ← unhide hKe', unhide hdr0, Cs.mach3_byte _ _ _ _ _ _ h44 h10 h34]; simp
                          go_wp2
                          go_ret3
                          exact ⟨us, _, _, by rw [(unhide hbad).2]; rfl, by rw [← (unhide hbad).1]; exact (unhide hRS').below ((unhide hnew).2)⟩
                    · have hnil : Hid (l.drop q = []) := List.drop_of_length_le (by rw [unhide hl']; omega)
                      have hK2 : Hid (K = ((fs ++ [acc], ln) :: (Cs.mach 4 [] [] 0 lq (l.drop q)).1, (Cs.mach 4 [] [] 0 lq (l.drop q)).2)) := by rw [Hid, ← unhide hKe', unhide hnil, Cs.mach3_nil, Cs.mach4_nil]
                      go_wp2
                      go_roundw
                      case rel => exact ⟨q, lq, true, by omega, by omega, rfl, rfl, rfl, fs ++ [acc], (unhide hnew).1, (unhide hnew).2, by omega, by simp; omega, .inl ⟨rfl, unhide hK2, by omega⟩⟩
                      case measure => simp [intOf, bN]; omega
                  · have hKe' := hide hKe
                    clear hKe
                    by_cases hqn2 : q < n
                    · have hpl : q < l.length := by rw [unhide hl']; exact hqn2
                      obtain ⟨_, _, e1, cx⟩ := byt_at (unhide hbyq) hpl
                      cases e1
                      have hdr := hide (drop_at hpl)
                      obtain ⟨c0, hc0⟩ : ∃ c0, c0 = l[q] := ⟨_, rfl⟩
                      rw [← hc0] at cx
                      have hdr0 : Hid (l.drop q = c0 :: l.drop (q + 1)) := by rw [Hid, unhide hdr, hc0]
                      clear hdr hc0
                      have hqI : ¬ (n : Int) ≤ q := by omega
                      by_cases h34 : c0 = 34
                      · subst h34
                        have hK3 : Hid (Cs.mach 3 acc fs ln lq (l.drop (q + 1)) = K) := by rw [Hid, ← unhide hKe', unhide hdr0, Cs.mach2_quote]
                        clear hKe'
                        by_cases hqn3 : q + 1 < n
                        · have hpl3 : q + 1 < l.length := by rw [unhide hl']; exact hqn3
                          obtain ⟨_, _, e1, cx3⟩ := byt_at (unhide hbyq) hpl3
                          cases e1
                          have hdr := hide (drop_at hpl3)
                          obtain ⟨c1, hc1⟩ : ∃ c1, c1 = l[q + 1] := ⟨_, rfl⟩
                          rw [← hc1] at cx3
                          have hdr1 : Hid (l.drop (q + 1) = c1 :: l.drop (q + 2)) := by rw [Hid, unhide hdr, hc1]
                          clear hdr hc1
                          by_cases h342 : c1 = 34
                          · subst h342
                            have hK2 : Hid (Cs.mach 2 (acc ++ [34]) fs ln lq (l.drop (q + 2)) = K) := by rw [Hid, ← unhide hK3, unhide hdr1, Cs.mach3_quote]
                            go_wp2_with (at_builtin; refine wpList_append_where _ rfl _ _ 29 rfl wF.heap.size 5 i5 (.int .u8 0) 1 1 Tryf.underlying29 hi5 hi50 hi51 hi52 rfl (by decide) _ acc.length _ rfl ((unhide ho3').alloc _) ⟨wq.heap.size, 0, none⟩ 1 1 [byteV 34] rfl rfl (cell_one_new _ _ _) (by simp [Value.oneCell', byteV]) (by unfold maxLen; omega) (by omega) (by rw [size_alloc']; omega) ?_)
                            intro v6 w6 hown6 hgrow6 _ _
                            have hnew := hide (acc_step (c := 34) (unhide ho3') (unhide hb3') _ hown6 hgrow6)
                            clear hown6 hgrow6
                            go_wp2
                            go_roundw
                            case rel => exact ⟨q + 2, lq, false, by omega, by omega, by go_num, rfl, rfl, acc ++ [34], (unhide hnew).1, (unhide hnew).2, by omega, by simp; omega, .inr ⟨rfl, unhide hK2⟩⟩
                            case measure => simp [intOf, bN]; omega
                          · have h342' : ¬ ((c1.toNat : Int) = 34) := fun e => h342 (byte_eq _ 34 e)
                            have hnh : Hid ((l.drop (q + 1)).head? ≠ some 34) := by rw [Hid, unhide hdr1]; simpa using h342
                            go_wp2
                            go_roundw
                            case rel => exact ⟨q + 1, lq, true, by omega, by omega, by go_num, rfl, rfl, acc, unhide ho3', unhide hb3', by omega, by omega, .inl ⟨rfl, unhide hK3, unhide hnh⟩⟩
                            case measure => simp [intOf, bN]; omega
                        · have hnh : Hid ((l.drop (q + 1)).head? ≠ some 34) := by rw [Hid, List.drop_of_length_le (by rw [unhide hl']; omega)]; simp
                          go_wp2
                          go_roundw
                          case rel => exact ⟨q + 1, lq, true, by omega, by omega, by go_num, rfl, rfl, acc, unhide ho3', unhide hb3', by omega, by omega, .inl ⟨rfl, unhide hK3, unhide hnh⟩⟩
                          case measure => simp [intOf, bN]; omega
                      · have h34' : ¬ ((c0.toNat : Int) = 34) := fun e => h34 (byte_eq _ 34 e)
                        have hK2 : Hid (Cs.mach 2 (acc ++ [c0]) fs ln (if c0 = 10 then lq + 1 else lq) (l.drop (q + 1)) = K) := by rw [Hid, ← unhide hKe', unhide hdr0, Cs.mach2_byte _ _ _ _ _ _ h34]
                        by_cases h10 : c0 = 10
                        · subst h10
                          rw [if_pos rfl] at hK2
                          go_wp2_with (at_builtin; refine wpList_append_where _ rfl _ _ 29 rfl wF.heap.size 5 i5 (.int .u8 0) 1 1 Tryf.underlying29 hi5 hi50 hi51 hi52 rfl (by decide) _ acc.length _ rfl ((unhide ho3').alloc _) ⟨wq.heap.size, 0, none⟩ 1 1 [byteV 10] rfl rfl (cell_one_new _ _ _) (by simp [Value.oneCell', byteV]) (by unfold maxLen; omega) (by omega) (by rw [size_alloc']; omega) ?_)
                          intro v6 w6 hown6 hgrow6 _ _
                          have hnew := hide (acc_step (c := 10) (unhide ho3') (unhide hb3') _ hown6 hgrow6)
                          clear hown6 hgrow6
                          go_wp2
                          go_roundw
                          case rel => exact ⟨q + 1, lq + 1, false, by omega, by omega, by go_num, by go_num, rfl, acc ++ [10], (unhide hnew).1, (unhide hnew).2, by omega, by simp; omega, .inr ⟨rfl, unhide hK2⟩⟩
                          case measure => simp [intOf, bN]; omega
                        · have h10' : ¬ ((c0.toNat : Int) = 10) := fun e => h10 (byte_eq _ 10 e)
                          rw [if_neg h10] at hK2
                          go_wp2_with (at_builtin; refine wpList_append_where _ rfl _ _ 29 rfl wF.heap.size 5 i5 (.int .u8 0) 1 1 Tryf.underlying29 hi5 hi50 hi51 hi52 rfl (by decide) _ acc.length _ rfl ((unhide ho3').alloc _) ⟨wq.heap.size, 0, none⟩ 1 1 [byteV c0] rfl rfl (cell_one_new _ _ _) (by simp [Value.oneCell', byteV]) (by unfold maxLen; omega) (by omega) (by rw [size_alloc']; omega) ?_)
                          intro v6 w6 hown6 hgrow6 _ _
                          have hnew := hide (acc_step (c := c0) (unhide ho3') (unhide hb3') _ hown6 hgrow6)
                          clear hown6 hgrow6
                          go_wp2
                          go_roundw
                          case rel => exact ⟨q + 1, lq, false, by omega, by omega, by go_num, rfl, rfl, acc ++ [c0], (unhide hnew).1, (unhide hnew).2, by omega, by simp; omega, .inr ⟨rfl, unhide hK2⟩⟩
                          case measure => simp [intOf, bN]; omega
                    · have hnil : Hid (l.drop q = []) := List.drop_of_length_le (by rw [unhide hl']; omega)
                      have hbad : Hid (R = (Cs.mach 4 [] [] 0 1 l).1 ∧ (Cs.mach 4 [] [] 0 1 l).2 = true) := by
                        rw [Hid, ← unhide hM2, ← unhide hKe', unhide hnil, Cs.mach2_nil]; simp
                      go_wp2
                      go_ret3
                      exact ⟨us, _, _, by rw [(unhide hbad).2]; rfl, by rw [← (unhide hbad).1]; exact (unhide hRS').below ((unhide hfw).2.1.trans ((unhide hb3').mono hfs))⟩
              · have hKb : Hid (Cs.mach 1 [] fs ln ln' (l.drop p) = K) := by rw [Hid, ← unhide hKe', Cs.mach0_bare _ _ _ _ hdr]
                clear hKe' hdr
                go_wp2
                go_loopw [15] (fun qv wx => ∃ q : Nat, p ≤ q ∧ q ≤ n ∧ qv = .int .i64 q ∧ wx = wr ∧ Cs.mach 1 ((l.drop p).take (q - p)) fs ln ln' (l.drop q) = K) (fun qv _ => n - (intOf qv).toNat)
                case atStart => exact ⟨p, Nat.le_refl _, hp, rfl, rfl, by rw [Nat.sub_self, List.take_zero]; exact unhide hKb⟩
                case round =>
                  clear hKb
                  obtain ⟨q, hpq, hqn, rfl, hw, hKe⟩ := hrel
                  replace hw := hw.symm
                  subst hw
                  have hKe' := hide hKe
                  clear hKe
                  go_upto_region 42 with fail
                  go_cut [134] from 117 to 134 (fun b wx => wx = wr ∧ ((b = .bool true ∧ q < n ∧ ∃ c0, l.drop q = c0 :: l.drop (q + 1) ∧ c0 ≠ 44 ∧ c0 ≠ 10 ∧ wr.cell? ⟨ab, ao + q, none⟩ = some (.int .u8 (c0.toNat : Int))) ∨ (b = .bool false ∧ ((q = n ∧ l.drop q = []) ∨ (q < n ∧ ∃ c0, l.drop q = c0 :: l.drop (q + 1) ∧ (c0 = 44 ∨ c0 = 10))))))
                  case first =>
                    by_cases hqn2 : q < n
                    · have hpl : q < l.length := by rw [unhide hl']; exact hqn2
                      obtain ⟨_, _, e1, cx⟩ := byt_at (unhide hbyr) hpl
                      cases e1
                      have hdr := hide (drop_at hpl)
                      obtain ⟨c0, hc0⟩ : ∃ c0, c0 = l[q] := ⟨_, rfl⟩
                      rw [← hc0] at cx
                      have hdr0 : Hid (l.drop q = c0 :: l.drop (q + 1)) := by rw [Hid, unhide hdr, hc0]
                      have cx' := hide cx
                      clear hdr hc0
                      by_cases h44 : c0 = 44
                      · subst h44
                        go_wp2
                        go_meet
                        case rel => exact ⟨by first | rfl | simp, .inr ⟨by simp, .inr ⟨hqn2, 44, unhide hdr0, .inl rfl⟩⟩⟩
                      · have h44' : ¬ ((c0.toNat : Int) = 44) := fun e => h44 (byte_eq _ 44 e)
                        by_cases h10 : c0 = 10
                        · subst h10
                          go_wp2
                          go_meet
                          case rel => exact ⟨by first | rfl | simp, .inr ⟨by simp, .inr ⟨hqn2, 10, unhide hdr0, .inr rfl⟩⟩⟩
                        · have h10' : ¬ ((c0.toNat : Int) = 10) := fun e => h10 (byte_eq _ 10 e)
                          go_wp2
                          go_meet
                          case rel => exact ⟨by first | rfl | simp, .inl ⟨by simp [h10', h44'], hqn2, c0, unhide hdr0, h44, h10, unhide cx'⟩⟩
                    · have hnil : Hid (l.drop q = []) := List.drop_of_length_le (by rw [unhide hl']; omega)
                      go_wp2
                      go_meet
                      case rel => exact ⟨by first | rfl | simp, .inr ⟨by simp, .inl ⟨by omega, unhide hnil⟩⟩⟩
                  case rest =>
                    obtain ⟨hw, hq⟩ := hcut
                    replace hw := hw.symm
                    subst hw
                    rcases hq with ⟨rfl, hqn2, c0, hdr, h44, h10, cx⟩ | ⟨rfl, hq⟩
                    · by_cases h34 : c0 = 34
                      · subst h34
                        have hKx : Hid (K = ([], true)) := by rw [Hid, ← unhide hKe', hdr, Cs.mach1_quote]
                        clear hdr hKe'
                        have hbad : Hid (R = (Cs.mach 4 [] [] 0 1 l).1 ∧ (Cs.mach 4 [] [] 0 1 l).2 = true) := by
                          rw [Hid, ← unhide hM2, unhide hKx]; simp
                        go_wp2
                        go_ret3
                        exact ⟨us, _, _, by rw [(unhide hbad).2]; rfl, by rw [← (unhide hbad).1]; exact (unhide hRS').below (unhide hb')⟩
                      · have h34' : ¬ ((c0.toNat : Int) = 34) := fun e => h34 (byte_eq _ 34 e)
                        have hK2 : Hid (Cs.mach 1 ((l.drop p).take (q + 1 - p)) fs ln ln' (l.drop (q + 1)) = K) := by
                          rw [Hid, take_one_more hdr hpq, ← unhide hKe', hdr, Cs.mach1_byte _ _ _ _ _ _ h44 h10 h34]
                        clear hdr hKe'
                        go_wp2
                        go_roundw
                        case rel => exact ⟨q + 1, by omega, by omega, by go_num, by first | rfl | simp, unhide hK2⟩
                        case measure => simp [intOf]; omega
                    · obtain ⟨acc, hacc⟩ : ∃ acc, acc = (l.drop p).take (q - p) := ⟨_, rfl⟩
                      rw [← hacc] at hKe'
                      have hq' := hide hq
                      obtain ⟨sv9, hsv9⟩ : ∃ sv9 : ByteArray, sv9 = ⟨acc.toArray⟩ := ⟨_, rfl⟩
                      obtain ⟨SS, hSS⟩ : ∃ SS, SS = (strsOf fs).map Value.string := ⟨_, rfl⟩
                      have hrow : Hid (wr.ownsRow wr0.heap.size 9 1 u10 fs.length SS) := by rw [Hid, hSS]; exact unhide ho'
                      have hconv : Hid (∀ C, (convert 29 9 (.slice (some ⟨ab, ao + p, none⟩) (q - p) C)).run Tryf.prog wr = .ok (.string sv9) wr) := fun C => by rw [hsv9, hacc]; exact conv_sub (unhide hbyr) (unhide hl') hpq hqn C
                      have hconv0 : Hid (c = p → (convert 29 9 (.slice (some ⟨ab, ao, none⟩) 0 0)).run Tryf.prog wr = .ok (.string sv9) wr) := fun e => by
                        have e1 : q - p = 0 := by omega
                        rw [hsv9, hacc, e1]
                        have := conv_sub (p := 0) (q := 0) (unhide hbyr) (unhide hl') (Nat.le_refl _) (by omega) 0
                        simpa using this
                      have hSS' := hide hSS
                      have hsv9' := hide hsv9
                      clear hSS hsv9 hacc hq
                      go_upto_region 46 with fail
                      go_cut [10] from 144 to 151 (fun v wx => wx.ownsRow wr0.heap.size 9 1 v (fs ++ [acc]).length ((strsOf (fs ++ [acc])).map Value.string) ∧ Below wr0.heap.size wr0 wx)
                      case first =>
                        by_cases hcp : c = p
                        · have hcv := unhide hconv0 hcp
                          have e1 : p = c := hcp.symm
                          have e2 : q = c := by omega
                          have e3 : n = c := by omega
                          clear hconv hconv0 hcp
                          subst e1
                          subst e2
                          subst e3
                          go_wp2_with (at_builtin; refine wpList_append_where _ rfl _ _ 22 rfl wr0.heap.size 9 i9 (.string ⟨#[]⟩) 1 16 Tryf.underlying22 hi9 hi90 hi91 hi92 rfl (by decide) _ fs.length SS rfl ((unhide hrow).alloc _) ⟨wr.heap.size, 0, none⟩ 1 1 [.string sv9] rfl rfl (cell_one_new _ _ _) (by simp [Value.oneCell']) (by unfold maxLen; omega) (by omega) (by rw [size_alloc']; omega) ?_)
                          intro v6 w6 hown6 hgrow6 _ _
                          have hnew := hide (rec_step (acc := acc) (by rw [← unhide hSS']; exact unhide hrow) (unhide hb') _ (by rw [← unhide hSS', ← unhide hsv9']; exact hown6) hgrow6)
                          clear hown6 hgrow6
                          go_wp2
                          go_meet
                          case rel => exact unhide hnew
                        · have hcv := unhide hconv
                          clear hconv hconv0
                          go_wp2_with (at_builtin; refine wpList_append_where _ rfl _ _ 22 rfl wr0.heap.size 9 i9 (.string ⟨#[]⟩) 1 16 Tryf.underlying22 hi9 hi90 hi91 hi92 rfl (by decide) _ fs.length SS rfl ((unhide hrow).alloc _) ⟨wr.heap.size, 0, none⟩ 1 1 [.string sv9] rfl rfl (cell_one_new _ _ _) (by simp [Value.oneCell']) (by unfold maxLen; omega) (by omega) (by rw [size_alloc']; omega) ?_)
                          intro v6 w6 hown6 hgrow6 _ _
                          have hnew := hide (rec_step (acc := acc) (by rw [← unhide hSS']; exact unhide hrow) (unhide hb') _ (by rw [← unhide hSS', ← unhide hsv9']; exact hown6) hgrow6)
                          clear hown6 hgrow6
                          go_wp2
                          go_meet
                          case rel => exact unhide hnew
                      case rest =>
                       obtain ⟨w6, rfl⟩ : ∃ q : World, q = wc := ⟨_, rfl⟩
                       have hnew := hide hcut
                       have hbyw := hide (byt_below (unhide hby') ((unhide hRS').bel.trans ((unhide hnew).2.mono (unhide hRS').bel.size)))
                       clear hcut hconv hconv0 hrow hSS' hsv9'
                       rcases unhide hq' with ⟨hqe, hnil⟩ | ⟨hqn2, c0, hdr, hcc⟩
                       · have hK2 : Hid (K = ((fs ++ [acc], ln) :: (Cs.mach 4 [] [] 0 ln' (l.drop q)).1, (Cs.mach 4 [] [] 0 ln' (l.drop q)).2)) := by rw [Hid, ← unhide hKe', hnil, Cs.mach1_nil, Cs.mach4_nil]
                         have hqI : ¬ (q : Int) < n := by omega
                         clear hnil hq'
                         go_wp2
                         go_roundw
                         case rel => exact ⟨q, ln', true, by omega, by omega, rfl, rfl, rfl, fs ++ [acc], (unhide hnew).1, (unhide hnew).2, by omega, by simp; omega, .inl ⟨rfl, unhide hK2, by omega⟩⟩
                         case measure => simp [intOf, bN]; omega
                       · have hpl : q < l.length := by rw [unhide hl']; exact hqn2
                         obtain ⟨_, _, e1, cx⟩ := byt_at (unhide hbyw) hpl
                         cases e1
                         have hc0 : l[q] = c0 := by
                           have h2 := drop_at hpl
                           rw [hdr] at h2
                           exact (List.cons.inj h2).1.symm
                         rw [hc0] at cx
                         have hdr' := hide hdr
                         clear hdr hc0 hq'
                         rcases hcc with h44 | h10
                         · subst h44
                           have hK2 : Hid (Cs.mach 0 [] (fs ++ [acc]) ln ln' (l.drop (q + 1)) = K) := by rw [Hid, ← unhide hKe', unhide hdr', Cs.mach1_comma]
                           go_wp2
                           go_roundw
                           case rel => exact ⟨q + 1, ln', false, by omega, by omega, by go_num, rfl, rfl, fs ++ [acc], (unhide hnew).1, (unhide hnew).2, by omega, by simp; omega, .inr ⟨rfl, unhide hK2, by simp; omega⟩⟩
                           case measure => simp [intOf, bN]; omega
                         · subst h10
                           have hK2 : Hid (K = ((fs ++ [acc], ln) :: (Cs.mach 4 [] [] 0 (ln' + 1) (l.drop (q + 1))).1, (Cs.mach 4 [] [] 0 (ln' + 1) (l.drop (q + 1))).2)) := by rw [Hid, ← unhide hKe', unhide hdr', Cs.mach1_lf]
                           go_wp2
                           go_roundw
                           case rel => exact ⟨q + 1, ln' + 1, true, by omega, by omega, by go_num, by go_num, rfl, fs ++ [acc], (unhide hnew).1, (unhide hnew).2, by omega, by simp; omega, .inl ⟨rfl, unhide hK2, by omega⟩⟩
                           case measure => simp [intOf, bN]; omega
    · have hnil : Hid (l.drop p = []) := List.drop_of_length_le (by rw [unhide hl']; omega)
      have hfin : Hid (R = (Cs.mach 4 [] [] 0 1 l).1 ∧ (Cs.mach 4 [] [] 0 1 l).2 = false) := by
        rw [Hid, ← unhide hM', unhide hnil, Cs.mach4_nil]; simp
      clear hM' hnil
      go_wp2
      go_ret3
      exact ⟨us, _, _, by rw [(unhide hfin).2]; rfl, by rw [← (unhide hfin).1]; exact unhide hRS'⟩
end Go.Proofs.Qxb6612546aFmt
