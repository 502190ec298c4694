import Derived.Test.Qxb6609067aFmtSitB
import Derived.Test.Qxb6609067aFmtBytesA
import Derived.Test.Qxb6609067aFmtSize
import Derived.Deep.RegionWith
import Derived.Deep.RegionHeld3
namespace Go.Proofs.Qxb6609067aFmt
open Go.RowKit Go.Extern.Stop Go.Stop Go.Extern

theorem StrS.lit1 {w : World} {g : Nat} {s : ByteArray} (h : w.cell? ⟨g, 0, none⟩ = some (.string s)) : StrS w (.slice (some ⟨g, 0, none⟩) 1 1) [s] := by
  refine StrS.mk (xs := [s]) (by simp) fun i x hi => ?_
  cases i with
  | zero => simp at hi; subst hi; exact h
  | succ i => simp at hi

/-- Two new lists of one string each. -/
theorem two_lits1 (w : World) (a b : ByteArray) : StrS ((w.alloc (Obj.cells #[Value.string a] 9)).alloc (Obj.cells #[Value.string b] 9)) (.slice (some ⟨w.heap.size, 0, none⟩) 1 1) [a] ∧
    StrS ((w.alloc (Obj.cells #[Value.string a] 9)).alloc (Obj.cells #[Value.string b] 9)) (.slice (some ⟨w.heap.size + 1, 0, none⟩) 1 1) [b] ∧
    Below w.heap.size w ((w.alloc (Obj.cells #[Value.string a] 9)).alloc (Obj.cells #[Value.string b] 9)) := by
  refine ⟨StrS.lit1 ?_, StrS.lit1 ?_, ?_⟩
  · rw [((Below.refl _ (w.alloc (Obj.cells #[Value.string a] 9))).alloc (Nat.le_refl _) (Obj.cells #[Value.string b] 9)).cell (by simp)]
    exact one_new0 w _ _
  · have h := one_new0 (w.alloc (Obj.cells #[Value.string a] 9)) (.string b) 9
    rw [show (w.alloc (Obj.cells #[Value.string a] 9)).heap.size = w.heap.size + 1 from by simp] at h
    exact h
  · exact (((Below.refl _ w).alloc (Nat.le_refl _) _).alloc (by simp) _)

set_option maxRecDepth 100000 in
set_option maxHeartbeats 1600000 in
theorem twice_any (F : Interp) (line : Int) (kw ar : ByteArray) (a3 a4 a5 a6 a7 : Option Addr) (c3 c4 c5 c6 c7 : Nat) (x3 x4 x5 x6 x7 : List ByteArray) (W : World)
    (h3 : StrS W (.slice a3 x3.length c3) x3) (h4 : StrS W (.slice a4 x4.length c4) x4) (h5 : StrS W (.slice a5 x5.length c5) x5) (h6 : StrS W (.slice a6 x6.length c6) x6) (h7 : StrS W (.slice a7 x7.length c7) x7)
    (hF : F.answers W.tape) (hE : Env1 W) :
    Calls Tryf.prog 4 #[.int .i64 line, .string kw, .string ar, .slice a3 x3.length c3, .slice a4 x4.length c4, .slice a5 x5.length c5, .slice a6 x6.length c6, .slice a7 x7.length c7] W (LawPost W) := by
  have HB := hide (bytesTwice line kw ar a3 a4 a5 a6 a7 _ _ _ _ _ c3 c4 c5 c6 c7 x3 x4 x5 x6 x7 W h3 h4 h5 h6 h7)
  go_enter Tryf.func4, Tryf.ntmps4
  go_wp2_with fail
  refine (unhide HB).mono ?_
  rintro e w' ⟨b, rfl, hb, hw⟩
  replace hw := hw.symm
  subst hw
  clear HB
  cases b with
  | false => go_wp2; go_ret; exact ⟨rfl, Below.refl _ _⟩
  | true =>
    have hsum := hb rfl
    clear hb
    have har : ar.size ≤ 1048576 := by omega
    have m3 : x3.length ≤ 1048576 := by omega
    have m4 : x4.length ≤ 1048576 := by omega
    have m5 : x5.length ≤ 1048576 := by omega
    have m6 : x6.length ≤ 1048576 := by omega
    have m7 : x7.length ≤ 1048576 := by omega
    have HS := hide (instSize_any kw ar a3 a4 a5 a6 a7 _ _ _ _ _ c3 c4 c5 c6 c7 x3 x4 x5 x6 x7 W h3 h4 h5 h6 h7 (by omega) har m3 m4 m5 m6 m7)
    clear hsum
    go_wp2_with fail
    refine (unhide HS).mono ?_
    rintro e w' ⟨r, rfl, hr1, hr2, hw⟩
    replace hw := hw.symm
    subst hw
    clear HS
    by_cases hr : r < 0
    · go_wp2; go_ret; exact ⟨rfl, Below.refl _ _⟩
    · have HC := hide (clone_any _ x3 W h3 m3)
      go_wp2_with fail
      refine (unhide HC).mono ?_
      rintro e w1 ⟨v, rfl, s3, -, hb1, -⟩
      obtain ⟨b3, d3, rfl⟩ := s3.form
      clear HC h3
      have HC := hide (clone_any _ x4 w1 (h4.below hb1) m4)
      go_wp2_with fail
      refine (unhide HC).mono ?_
      rintro e w2 ⟨v, rfl, s4, -, hb2, -⟩
      obtain ⟨b4, d4, rfl⟩ := s4.form
      replace s3 := s3.below hb2
      have hb2 := hb1.trans (hb2.mono hb1.size)
      clear HC h4 hb1
      have HC := hide (clone_any _ x5 w2 (h5.below hb2) m5)
      go_wp2_with fail
      refine (unhide HC).mono ?_
      rintro e w3 ⟨v, rfl, s5, -, hb3, -⟩
      obtain ⟨b5, d5, rfl⟩ := s5.form
      replace s3 := s3.below hb3
      replace s4 := s4.below hb3
      have hb3 := hb2.trans (hb3.mono hb2.size)
      clear HC h5 hb2
      have HC := hide (clone_any _ x6 w3 (h6.below hb3) m6)
      go_wp2_with fail
      refine (unhide HC).mono ?_
      rintro e w4 ⟨v, rfl, s6, -, hb4, -⟩
      obtain ⟨b6, d6, rfl⟩ := s6.form
      replace s3 := s3.below hb4
      replace s4 := s4.below hb4
      replace s5 := s5.below hb4
      have hb4 := hb3.trans (hb4.mono hb3.size)
      clear HC h6 hb3
      have HC := hide (clone_any _ x7 w4 (h7.below hb4) m7)
      go_wp2_with fail
      refine (unhide HC).mono ?_
      rintro e w5 ⟨v, rfl, s7, -, hb5, -⟩
      obtain ⟨b7, d7, rfl⟩ := s7.form
      replace s3 := s3.below hb5
      replace s4 := s4.below hb5
      replace s5 := s5.below hb5
      replace s6 := s6.below hb5
      have hb5 := hb4.trans (hb5.mono hb4.size)
      clear HC h7 hb4
      have HC := hide (old_any b6 b7 _ _ d6 d7 x6 x7 w5 s6 s7 m6)
      go_wp2_with fail
      refine (unhide HC).mono ?_
      rintro e w6 ⟨v17, v18, rfl, s17, s18, hb6⟩
      obtain ⟨b17, d17, rfl⟩ := s17.form
      obtain ⟨b18, d18, rfl⟩ := s18.form
      rw [padL_length] at s18 ⊢
      replace s3 := s3.below hb6
      replace s4 := s4.below hb6
      replace s5 := s5.below hb6
      replace s6 := s6.below hb6
      replace s7 := s7.below hb6
      have hb6 := hb5.trans (hb6.mono hb5.size)
      clear HC hb5
      have HC : Hid (Calls Tryf.prog 11 #[.string ar] w6 (fun e w' => e = .returned (.string (nameOf ar)) ∧ w' = w6)) := firstWord_any ar w6 har
      go_wp2_with fail
      refine (unhide HC).mono ?_
      rintro e w' ⟨rfl, hw⟩
      replace hw := hw.symm
      subst hw
      clear HC
      have HC := hide (build_any line kw ar _ _ _ _ _ x3 x4 x5 x6 x7 w6 s3 s4 s5 s6 s7 m3 m4 m5 m6)
      simp only [isNil_slice] at HC
      go_wp2_with fail
      refine (unhide HC).mono ?_
      intro e w7 hp
      obtain ⟨B, vE, vF, vW, vP, rfl, hS, hb7⟩ := Sit.of_build hp
      clear hp HC
      obtain ⟨aE, cE, aF, cF, aW, cW, rfl, rfl, rfl⟩ := hS.forms
      have hlz : (zipL x6 x7).length ≤ 100000000 := by rw [zipL_length]; omega
      have hbW := hb6.trans (hb7.mono hb6.size)
      have HC := hide (readEnv_sit F w6.heap.size B line kw ar x3 x4 x5 _ _ _ _ (zipL x6 x7) _ _ _ vP w7 hS har hlz (by rw [hbW.tape]; exact hF) (hE.below hbW))
      go_wp2_with fail
      refine (unhide HC).mono ?_
      rintro e w8 ⟨he, vP', hS8, hfr8⟩
      obtain ⟨v21, rfl, hv21⟩ := he.val
      have hb8 := hb7.trans (hS.fr_below hfr8)
      clear HC he hbW hS hfr8 hb7
      have hb9 := hb8
      clear hb8
      have hnm : (nameOf ar).size ≤ 1048576 := by 
        rw [nameOf_size]
        have h1 := fw_le ar.data.toList
        have h2 : ar.data.toList.length = ar.size := by simp
        omega
      have HC := hide (nameHasEq_any (nameOf ar) w8 hnm)
      rw [hasEq_name] at HC
      by_cases hq : 0 ≤ Pl.eqAt 0 0 (nameOf ar).data.toList
      · rw [decide_eq_true hq] at HC
        rw [envRes, if_pos hq] at hv21 hS8
        go_wp2_with fail
        refine (unhide HC).mono ?_
        rintro e w10 ⟨rfl, hb10⟩
        clear HC
        have hq' := hide hq
        clear hq
        replace hS8 := hS8.below hb10
        replace hb10 := hb9.trans (hb10.mono hb9.size)
        clear hb9
        have HL := labelModel_any ar w10 har
        unfold LabelPost at HL
        rw [label_eq] at HL
        have HC := hide HL
        clear HL
        obtain ⟨R, hR⟩ : ∃ R, R = readRes ar := ⟨_, rfl⟩
        have hRl := readRes_len ar
        rw [← hR] at HC hRl hv21 hS8
        have hR' := hide hR
        clear hR
        have hSlt : ∀ k, (k = B ∨ vP'.ownBlock = some k) → k < w10.heap.size := by
          intro k hk
          rcases hk with rfl | hk
          · exact hS8.lt
          · exact (hS8.p_lt k hk).2
        go_wp2_with fail
        refine (unhide HC).mono ?_
        rintro e w11 ⟨v22, v23, rfl, s22, s23, hb11, g22, g23⟩
        obtain ⟨b22, d22, rfl⟩ := s22.form
        obtain ⟨b23, d23, rfl⟩ := s23.form
        simp only [List.length_map] at s22 s23 g22 g23 ⊢
        have hz10 := hb11.size
        replace hS8 := hS8.below hb11
        replace hb11 := hb10.trans (hb11.mono hb10.size)
        clear hb10 HC
        have HC := hide (concat_any b17 b22 _ _ d17 d22 x6 (R.1.map Prod.fst) w11 (s17.below hb11) s22 (by omega) (by omega))
        go_wp2_with fail
        refine (unhide HC).mono ?_
        rintro e w12 ⟨v25, rfl, s25, -, hb12, g25⟩
        obtain ⟨b25, d25, rfl⟩ := s25.form
        simp only [List.length_append, List.length_map] at s25 g25 ⊢
        have hz11 := hb12.size
        replace hS8 := hS8.below hb12
        replace s22 := s22.below hb12
        replace s23 := s23.below hb12
        replace hb12 := hb11.trans (hb12.mono hb11.size)
        clear hb11 HC
        have HC := hide (concat_any b18 b23 _ _ d18 d23 (padL x7 x6.length) (R.1.map Prod.snd) w12 (s18.below hb12) s23 (by omega) (by omega))
        go_wp2_with fail
        refine (unhide HC).mono ?_
        rintro e w13 ⟨v26, rfl, s26, -, hb13, g26⟩
        obtain ⟨b26, d26, rfl⟩ := s26.form
        simp only [List.length_append, List.length_map, padL_length] at s26 g26 ⊢
        replace hS8 := hS8.below hb13
        replace s22 := s22.below hb13
        replace s23 := s23.below hb13
        replace s25 := s25.below hb13
        replace hb13 := hb12.trans (hb13.mono hb12.size)
        clear hb12 HC
        obtain ⟨aP, cP, rfl⟩ := hS8.pairS.form
        simp only [List.length_append, zipL_length] at hS8 hSlt
        have hnP := hS8.nP
        rw [isNil_slice] at hnP
        have hnl6 := fun w => Lib.run_eql_slice_nil (P := Tryf.prog) w 22 9 b6 x6.length d6 0 0 Tryf.underlying22
        go_upto_region 18 with fail
        go_cut [27] from 99 (fun c wx => c = .bool aP.isNone ∧ wx = w13)
        case first =>
          cases b6 with
          | none =>
            simp only [Option.isNone_none, Bool.true_and] at hnP
            have hl0 : ((R.1.length : Int) == 0) = aP.isNone := by rw [hnP]; cases R.1 <;> simp; omega
            go_wp2
            go_meet
            case rel => exact ⟨by rw [hnP], rfl⟩
          | some q =>
            simp only [Option.isNone_some, Bool.false_and] at hnP
            go_wp2
            go_meet
            case rel => exact ⟨by rw [hnP], rfl⟩
        case rest =>
          obtain ⟨rfl, hwc⟩ := hcut
          replace hwc := hwc.symm
          subst hwc
          have hnP' := hide hnP
          clear hnl6 hnP
          obtain ⟨R1, R2⟩ := R
          try dsimp only at s22 s23 s25 s26 hS8 hRl hv21 hnP' g22 g23 g25 g26 hSlt
          have p1 := hS8.pairS
          have q25 : StrS w13 (.slice b25 (x6.length + R1.length) d25) ((zipL x6 x7 ++ R1).map Prod.fst) := by rw [List.map_append, zip_fst]; exact s25
          have q26 : StrS w13 (.slice b26 (x6.length + R1.length) d26) ((zipL x6 x7 ++ R1).map Prod.snd) := by rw [List.map_append, zip_snd]; exact s26
          have HP1 := hide (pairsAre_any aP b25 b26 _ cP d25 d26 _ w13 p1 q25 q26 (by omega))
          obtain ⟨_, _, _, _, _, _, i6⟩ := hS8.inst.cell
          have hlz2 : (zipL x6 x7 ++ R1).length ≤ 100000000 := by rw [List.length_append, zipL_length]; omega
          cases R2
          all_goals (first | (obtain rfl := hv21.no) | (obtain ⟨p, rfl⟩ := hv21.yes))
          all_goals (
            go_wp2_with fail
            refine (unhide HP1).mono ?_
            rintro e w' ⟨rfl, n1, rfl⟩
            clear HP1
            obtain ⟨w14, hw14⟩ : ∃ w14, w14 = w13.drewN n1 := ⟨_, rfl⟩
            have hb14 : Below w13.heap.size w13 w14 := by rw [hw14]; exact bdrew (Below.refl _ _)
            rw [← hw14]
            clear hw14 i6 p1 q25 q26
            replace hS8 := hS8.below hb14
            replace s22 := s22.below hb14
            replace s23 := s23.below hb14
            replace s25 := s25.below hb14
            replace s26 := s26.below hb14
            replace hb14 := hb13.trans (hb14.mono hb13.size)
            clear hb13
            have hbW := hb6.trans (hb14.mono hb6.size)
            have HC := hide (readEnv_sit F w6.heap.size B line kw ar x3 x4 x5 _ _ _ _ (zipL x6 x7 ++ R1) _ _ _ _ w14 hS8 har hlz2 (by rw [hbW.tape]; exact hF) (hE.below hbW))
            go_wp2_with fail
            refine (unhide HC).mono ?_
            rintro e w15 ⟨he, vP2, hT15, hfr⟩
            obtain ⟨v29, rfl, hv29⟩ := he.val
            have hb15 := hb14.trans (hS8.fr_below hfr)
            rw [envRes, if_pos (unhide hq'), ← unhide hR'] at hv29 hT15
            dsimp only at hv29 hT15
            have t22 := s22.keep hfr (.inr fun g hg hS => by have h1 := g22 g hg; have h2 := hSlt g hS; omega)
            have t23 := s23.keep hfr (.inr fun g hg hS => by have h1 := g23 g hg; have h2 := hSlt g hS; omega)
            have t25 := s25.keep hfr (.inr fun g hg hS => by have h1 := g25 g hg; have h2 := hSlt g hS; omega)
            have t26 := s26.keep hfr (.inr fun g hg hS => by have h1 := g26 g hg; have h2 := hSlt g hS; omega)
            obtain ⟨aP2, cP2, rfl⟩ := hT15.pairS.form
            simp only [List.length_append, zipL_length] at hT15
            have hPP := hT15.nP
            rw [isNil_slice] at hPP
            have hnP := unhide hnP'
            rw [Bool.and_assoc, Bool.and_self, ← hnP] at hPP
            have u3 := s3.below hb15
            have u4 := s4.below hb15
            have u5 := s5.below hb15
            have HC1 := hide (fun (wx : World) (h : Below w15.heap.size w15 wx) => concat_any b25 b22 _ _ d25 d22 _ _ wx (t25.below h) (t22.below h) (by omega) (by omega))
            have HC2 := hide (fun (wx : World) (h : Below w15.heap.size w15 wx) => concat_any b26 b23 _ _ d26 d23 _ _ wx (t26.below h) (t23.below h) (by omega) (by omega))
            have HP := hide (fun (wx : World) (h : Below w15.heap.size w15 wx) (b1 b2 : Option Addr) (c1 c2 : Nat) (k1 : StrS wx (.slice b1 (x6.length + R1.length + R1.length) c1) (x6 ++ R1.map Prod.fst ++ R1.map Prod.fst)) (k2 : StrS wx (.slice b2 (x6.length + R1.length + R1.length) c2) (padL x7 x6.length ++ R1.map Prod.snd ++ R1.map Prod.snd)) =>
              pairsAre_any aP2 b1 b2 _ cP2 c1 c2 _ wx ((hT15.below h).pairS) (by rw [List.map_append, List.map_append, zip_fst]; exact k1) (by rw [List.map_append, List.map_append, zip_snd]; exact k2) (by omega))
            rw [hPP] at HP
            have HB := hide (fun (wx : World) (h : Below w15.heap.size w15 wx) => sit_but (hT15.below h) (u3.below h) (u4.below h) m3 m4)
            have HS := hide (fun (wx : World) (h : Below w15.heap.size w15 wx) => sit_words (hT15.below h) (u5.below h) m5)
            have HI := hide (fun (wx : World) (h : Below w15.heap.size w15 wx) => (hT15.below h).inst.cell)
            have hfin := hide (fun (wx : World) (h : Below w15.heap.size w15 wx) => hb6.trans ((hb15.trans (h.mono hb15.size)).mono hb6.size))
            obtain ⟨_, _, _, _, _, i5, i6⟩ := hT15.inst.cell
            have kb : Below w15.heap.size w15 w15 := Below.refl _ _
            clear HC he hfr hS8 hT15 hPP hnP hnP' s22 s23 s25 s26 t22 t23 t25 t26 g22 g23 g25 g26 hSlt hz10 hz11 u3 u4 u5 s3 s4 s5 s6 s7 s17 s18 hb14 hb15 hb6 hE hF hR' hq'
            first | (obtain rfl := hv29.no) | (obtain ⟨p, rfl⟩ := hv29.yes)
            go_upto_region 21 with fail
            go_cut [16] from 122 (fun c wx => c = .bool true ∧ Below w15.heap.size w15 wx)
            case first =>
              clear hfin hv21 hv29 m3 m4 m5 m6 m7 hRl har hlz hlz2 hnm hbW
              have kdr : Below w15.heap.size w15 w15.drew := ⟨rfl, rfl, rfl, Nat.le_refl _, fun _ _ => rfl⟩
              have HSof : ∀ wx, Below w15.heap.size w15 wx → (Below w15.heap.size w15 wx ∧ wx.cell? ⟨B, 6, none⟩ = some (.slice aP2 (x6.length + R1.length + R1.length) cP2) ∧ wx.cell? ⟨B, 5, none⟩ = some (.slice aW x5.length cW)) := fun wx h => ⟨h, (unhide HI wx h).2.2.2.2.2.2, (unhide HI wx h).2.2.2.2.2.1⟩
              have HSof' := hide HSof
              clear HSof HI
              go_region_held3 (fun wx => Below w15.heap.size w15 wx ∧ wx.cell? ⟨B, 6, none⟩ = some (.slice aP2 (x6.length + R1.length + R1.length) cP2) ∧ wx.cell? ⟨B, 5, none⟩ = some (.slice aW x5.length cW))
                (exact unhide HSof' _ (by first | assumption | exact kdr | exact kbN _))
                (first
                  | (go_at_call_of 18 (Value.slice b25 (x6.length + R1.length) d25); refine (unhide HC1 _ ?_).mono ?_; exact kdr; rintro e w16 ⟨v, rfl, t1, -, k1, -⟩; obtain ⟨e1, f1, rfl⟩ := t1.form; simp only [List.length_append, List.length_map] at t1 ⊢; have kb1 : Below w15.heap.size w15 w16 := kdr.trans (k1.mono kdr.size); clear k1)
                  | (go_at_call_of 18 (Value.slice b26 (x6.length + R1.length) d26); refine (unhide HC2 _ ?_).mono ?_; exact kb1; rintro e w17 ⟨v, rfl, t2, -, k2, -⟩; obtain ⟨e2, f2, rfl⟩ := t2.form; simp only [List.length_append, List.length_map, padL_length] at t2 ⊢; have kb2 : Below w15.heap.size w15 w17 := kb1.trans (k2.mono kb1.size); replace t1 := t1.below k2; have kbN : ∀ n, Below w15.heap.size w15 (w17.drewN n) := fun n => bdrew kb2; clear k2 kb1)
                  | (go_at_call 20; refine (unhide HP _ ?_ e1 e2 f1 f2 ?_ ?_).mono ?_; exact kb2; exact t1; exact t2; rintro e w18 ⟨rfl, n1, rfl⟩)
                  | (go_at_call 14; refine (unhide HB _ ?_).mono ?_; exact kbN _; rintro e w19 ⟨rfl, n2, rfl⟩)
                  | (go_at_call 15; refine (unhide HS _ ?_).mono ?_; exact kbN _; rintro e w20 ⟨rfl, n3, rfl⟩))
              go_wp2
              go_meet
              case rel => exact ⟨rfl, kbN _⟩
            case rest =>
              obtain ⟨rfl, hwc⟩ := hcut
              go_wp2
              go_ret
              exact ⟨rfl, unhide hfin _ hwc⟩)
      · rw [decide_eq_false hq] at HC
        rw [envRes, if_neg hq] at hv21 hS8
        go_wp2_with fail
        refine (unhide HC).mono ?_
        rintro e w10 ⟨rfl, hb10⟩
        clear HC
        have hq' := hide hq
        clear hq
        replace hS8 := hS8.below hb10
        replace hb10 := hb9.trans (hb10.mono hb9.size)
        clear hb9
        have hle : (nameOf ar).size ≤ ar.size := by
          rw [nameOf_size]
          have h1 := fw_le ar.data.toList
          have h2 : ar.data.toList.length = ar.size := by simp
          omega
        have HC : Hid (Calls Tryf.prog 21 #[.string (ar.extract (nameOf ar).size ar.size)] w10 (fun e w' => e = .returned (.string (valueOf ar)) ∧ w' = w10)) := by
          have := trimSpace_any (ar.extract (nameOf ar).size ar.size) w10 (by rw [ByteArray.size_extract]; omega)
          unfold TrimPost at this
          rw [nameOf_size, value_eq] at this
          rw [nameOf_size]
          exact this
        go_wp2_with fail
        refine (unhide HC).mono ?_
        rintro e w' ⟨rfl, hw⟩
        replace hw := hw.symm
        subst hw
        clear HC
        by_cases hv : (valueOf ar).data.toList = []
        · have hvb : (valueOf ar).toList.isEmpty = true := by rw [ByteArray.toList_eq, hv]; rfl
          rw [if_pos hv] at hv21 hS8
          have hv' := hide hv
          clear hv
          obtain ⟨p, rfl⟩ := hv21.yes
          try dsimp only at hS8
          obtain ⟨aP, cP, rfl⟩ := hS8.pairS.form
          rw [zipL_length] at hS8
          have hnP := hS8.nP
          rw [isNil_slice] at hnP
          have hnl6 := fun w => Lib.run_eql_slice_nil (P := Tryf.prog) w 22 9 b6 x6.length d6 0 0 Tryf.underlying22
          have HP1 := hide (pairsAre_any aP b17 b18 _ cP d17 d18 _ w10 hS8.pairS (by rw [zip_fst]; exact s17.below hb10) (by rw [zip_snd]; exact s18.below hb10) (by omega))
          rw [hnP] at HP1
          obtain ⟨_, _, _, _, _, _, i6⟩ := hS8.inst.cell
          clear hnP
          go_wp2_with fail
          refine (unhide HP1).mono ?_
          rintro e w' ⟨rfl, n1, rfl⟩
          clear HP1 i6
          obtain ⟨w11, hw11⟩ : ∃ w11, w11 = w10.drewN n1 := ⟨_, rfl⟩
          have hb11 : Below w10.heap.size w10 w11 := by rw [hw11]; exact bdrew (Below.refl _ _)
          rw [← hw11]
          clear hw11
          replace hS8 := hS8.below hb11
          replace hb11 := hb10.trans (hb11.mono hb10.size)
          clear hb10
          have hbW := hb6.trans (hb11.mono hb6.size)
          have HC := hide (readEnv_sit F w6.heap.size B line kw ar x3 x4 x5 _ _ _ _ (zipL x6 x7) _ _ _ _ w11 hS8 har hlz (by rw [hbW.tape]; exact hF) (hE.below hbW))
          go_wp2_with fail
          refine (unhide HC).mono ?_
          rintro e w15 ⟨he, vP2, hT15, hfr⟩
          obtain ⟨v29, rfl, hv29⟩ := he.val
          have hb15 := hb11.trans (hS8.fr_below hfr)
          rw [envRes, if_neg (by have hq2 := unhide hq'; omega), if_pos (unhide hv')] at hv29 hT15
          dsimp only at hv29 hT15
          obtain ⟨p2, rfl⟩ := hv29.yes
          obtain ⟨aP2, cP2, rfl⟩ := hT15.pairS.form
          rw [zipL_length] at hT15
          have hnP := hT15.nP
          rw [isNil_slice] at hnP
          have HP1 := hide (pairsAre_any aP2 b17 b18 _ cP2 d17 d18 _ w15 hT15.pairS (by rw [zip_fst]; exact s17.below hb15) (by rw [zip_snd]; exact s18.below hb15) (by omega))
          rw [hnP] at HP1
          have HP3 := hide (fun n : Nat => sit_but (w := w15.drewN n) (hT15.below (bdrew (Below.refl _ _))) ((s3.below hb15).below (bdrew (Below.refl _ _))) ((s4.below hb15).below (bdrew (Below.refl _ _))) m3 m4)
          have HP4 := hide (fun n : Nat => sit_words (w := w15.drewN n) (hT15.below (bdrew (Below.refl _ _))) ((s5.below hb15).below (bdrew (Below.refl _ _))) m5)
          have hfin := hide (fun n : Nat => hb6.trans ((hb15.mono hb6.size).trans (bdrew (n := n) (Below.refl W.heap.size w15))))
          obtain ⟨_, _, _, _, _, j5, j6⟩ := hT15.inst.cell
          clear HC he hfr hnP hS8 hT15 s3 s4 s5 s6 s7 s17 s18 hb11 hb15 hb6 hE hF
          go_wp2_with fail
          refine (unhide HP1).mono ?_
          rintro e w' ⟨rfl, n2, rfl⟩
          clear HP1
          go_wp2_with fail
          refine (unhide HP3 _).mono ?_
          rintro e w' ⟨rfl, n3, rfl⟩
          clear HP3
          go_wp2_with fail
          refine (unhide HP4 _).mono ?_
          rintro e w' ⟨rfl, n4, rfl⟩
          clear HP4
          go_wp2
          go_ret
          exact ⟨rfl, unhide hfin _⟩
        · have hvb : (valueOf ar).toList.isEmpty = false := by
            rw [ByteArray.toList_eq]
            cases h : (valueOf ar).data.toList with
            | nil => exact absurd h hv
            | cons a b => rfl
          rw [if_neg hv] at hv21 hS8
          have hv' := hide hv
          clear hv
          obtain rfl := hv21.no
          try dsimp only at hS8
          obtain ⟨aP, cP, rfl⟩ := hS8.pairS.form
          try dsimp only [List.length_cons, List.length_nil] at hS8
          have hnP := hS8.nP
          rw [isNil_slice] at hnP
          have hSlt : ∀ k, (k = B ∨ (Value.slice aP 1 cP).ownBlock = some k) → k < w10.heap.size := by
            intro k hk
            rcases hk with rfl | hk
            · exact hS8.lt
            · exact (hS8.p_lt k hk).2
          obtain ⟨l1, l2, l3⟩ := two_lits1 w10 (nameOf ar) (valueOf ar)
          obtain ⟨_, _, _, _, _, _, i6⟩ := (hS8.below l3).inst.cell
          have HP1 := hide (pairsAre_any aP _ _ 1 cP 1 1 [(nameOf ar, valueOf ar)] _ ((hS8.below l3).pairS) l1 l2 (by omega))
          rw [hnP] at HP1
          clear hnP
          go_wp2_with fail
          refine (unhide HP1).mono ?_
          rintro e w' ⟨rfl, n1, rfl⟩
          clear HP1 i6
          obtain ⟨w11, hw11⟩ : ∃ w11, w11 = ((w10.alloc (Obj.cells #[Value.string (nameOf ar)] 9)).alloc (Obj.cells #[Value.string (valueOf ar)] 9)).drewN n1 := ⟨_, rfl⟩
          have hbd : Below ((w10.alloc (Obj.cells #[Value.string (nameOf ar)] 9)).alloc (Obj.cells #[Value.string (valueOf ar)] 9)).heap.size ((w10.alloc (Obj.cells #[Value.string (nameOf ar)] 9)).alloc (Obj.cells #[Value.string (valueOf ar)] 9)) w11 := by rw [hw11]; exact bdrew (Below.refl _ _)
          rw [← hw11]
          clear hw11
          replace l1 := l1.below hbd
          replace l2 := l2.below hbd
          replace hS8 := (hS8.below l3).below hbd
          have hb11 := hb10.trans ((l3.trans (hbd.mono l3.size)).mono hb10.size)
          clear hb10 hbd l3
          have hbW := hb6.trans (hb11.mono hb6.size)
          have HC := hide (readEnv_sit F w6.heap.size B line kw ar x3 x4 x5 _ _ _ _ [(nameOf ar, valueOf ar)] _ _ _ _ w11 hS8 har (by simp) (by rw [hbW.tape]; exact hF) (hE.below hbW))
          go_wp2_with fail
          refine (unhide HC).mono ?_
          rintro e w15 ⟨he, vP2, hT15, hfr⟩
          obtain ⟨v29, rfl, hv29⟩ := he.val
          have hb15 := hb11.trans (hS8.fr_below hfr)
          rw [envRes, if_neg (by have hq2 := unhide hq'; omega), if_neg (unhide hv')] at hv29 hT15
          dsimp only at hv29 hT15
          obtain rfl := hv29.no
          obtain ⟨aP2, cP2, rfl⟩ := hT15.pairS.form
          try dsimp only [List.length_cons, List.length_nil] at hT15
          have hnP := hT15.nP
          rw [isNil_slice] at hnP
          replace l1 := l1.keep hfr (.inr fun g hg hS => by have h2 := hSlt g hS; simp [Value.ownBlock] at hg; omega)
          replace l2 := l2.keep hfr (.inr fun g hg hS => by have h2 := hSlt g hS; simp [Value.ownBlock] at hg; omega)
          have HP1 := hide (pairsAre_any aP2 _ _ 1 cP2 1 1 [(nameOf ar, valueOf ar)] w15 hT15.pairS l1 l2 (by omega))
          rw [hnP] at HP1
          have HP3 := hide (fun n : Nat => sit_but (w := w15.drewN n) (hT15.below (bdrew (Below.refl _ _))) ((s3.below hb15).below (bdrew (Below.refl _ _))) ((s4.below hb15).below (bdrew (Below.refl _ _))) m3 m4)
          have HP4 := hide (fun n : Nat => sit_words (w := w15.drewN n) (hT15.below (bdrew (Below.refl _ _))) ((s5.below hb15).below (bdrew (Below.refl _ _))) m5)
          have hfin := hide (fun n : Nat => hb6.trans ((hb15.mono hb6.size).trans (bdrew (n := n) (Below.refl W.heap.size w15))))
          obtain ⟨_, _, _, _, _, j5, j6⟩ := hT15.inst.cell
          clear HC he hfr hnP hS8 hT15 s3 s4 s5 s6 s7 s17 s18 hb11 hb15 hb6 hE hF l1 l2 hSlt
          go_wp2_with fail
          refine (unhide HP1).mono ?_
          rintro e w' ⟨rfl, n2, rfl⟩
          clear HP1
          go_wp2_with fail
          refine (unhide HP3 _).mono ?_
          rintro e w' ⟨rfl, n3, rfl⟩
          clear HP3
          go_wp2_with fail
          refine (unhide HP4 _).mono ?_
          rintro e w' ⟨rfl, n4, rfl⟩
          clear HP4
          go_wp2
          go_ret
          exact ⟨rfl, unhide hfin _⟩
end Go.Proofs.Qxb6609067aFmt
