import Derived.Test.Qxb6612546aFmtTopP
import Derived.Deep.RegionHeld3
namespace Go.Proofs.Qxb6612546aFmt
open Go.RowKit Go.Extern.Stop Go.Stop Go.Extern

/-- The reader in the middle of the file: k records are behind. -/
def Mid (N T : Nat) (s : ByteArray) (ea : Addr) (fpr : Int) (M : List (List (List UInt8) × Nat) × Bool) (wX : World) (k : Nat) (wr : World) : Prop :=
  ∃ P nl st rcv, TR wr N T s P ea fpr nl st rcv ∧ Below N wX wr ∧ nl + P.length ≤ s.size ∧ M.1.drop k = (Cs.mach 4 [] [] 0 (nl + 1) (Cs.norm P)).1 ∧ M.2 = (Cs.mach 4 [] [] 0 (nl + 1) (Cs.norm P)).2

set_option maxRecDepth 100000 in
set_option maxHeartbeats 4000000 in
theorem lineIs_any (HP : ParseC) (F : Interp) (s : ByteArray) (req opt : List ByteArray) (a1 a2 : Option Addr) (n1 n2 c1 c2 : Nat) (ea fa : Addr) (w : World) (hF : F.answers w.tape) (hE : Env w w.heap.size ea fa)
    (h1 : StrS w (.slice a1 n1 c1) req) (h2 : StrS w (.slice a2 n2 c2) opt) : Calls Tryf.prog 6 #[.string s, .slice a1 n1 c1, .slice a2 n2 c2] w (LawPost w) := by
  obtain ⟨i9, hi9, hi90, hi91, hi92⟩ := info_parts Tryf.info9
  have HB := hide (bytesLineIs s a1 a2 n1 n2 c1 c2 req opt w h1 h2)
  have h1' := hide h1
  have h2' := hide h2
  have hF' := hide hF
  have hE' := hide hE
  have hl1 := hide h1.some_cases.1
  have hl2 := hide h2.some_cases.1
  have HP' := hide HP
  clear h1 h2 hF hE HP
  go_enter Tryf.func6, Tryf.ntmps6
  go_wp2_with fail
  refine (unhide HB).mono ?_
  rintro en wx ⟨b, rfl, hbb, hw⟩
  replace hw := hw.symm
  subst hw
  clear HB
  cases b with
  | false =>
    clear hbb
    go_wp2
    go_ret
    exact ⟨rfl, Below.refl _ _⟩
  | true =>
    have hsum := hide (hbb rfl)
    clear hbb
    have hq1 := unhide hl1
    have hq2 := unhide hl2
    have hsz : s.size ≤ 1048576 := by have := unhide hsum; omega
    have hn12 : n1 + n2 ≤ 1048576 := by have := unhide hsum; omega
    have hzz : Hid (∀ t, t ∈ req ∨ t ∈ opt → t.size ≤ 1048576) := fun t ht => by
      have := unhide hsum
      rcases ht with ht | ht
      · have := sizes_mem ht; omega
      · have := sizes_mem ht; omega
    have HT := hide (tooBig_any s ⟨#[]⟩ a1 a2 n1 n2 c1 c2 req opt w (unhide h1') (unhide h2') (by omega) (by omega) hsz (by decide))
    clear hq1 hq2 hsum
    go_wp2_with fail
    refine (unhide HT).mono ?_
    rintro en wx ⟨b, rfl, hw⟩
    replace hw := hw.symm
    subst hw
    clear HT
    cases b with
    | true =>
      go_wp2
      go_ret
      exact ⟨rfl, Below.refl _ _⟩
    | false =>
      have hnl1 := fun w => run_neq_slice_nil_any (P := Tryf.prog) w 22 9 a1 n1 c1 0 0 Tryf.underlying22
      have hnl2 := fun w => run_neq_slice_nil_any (P := Tryf.prog) w 22 9 a2 n2 c2 0 0 Tryf.underlying22
      go_upto_if 26 with fail
      go_cut [1, 7] from 27 (fun v _ wr => ∃ a c, v = .slice a n1 c ∧ StrS wr v req ∧ Below w.heap.size w wr)
      case first =>
        cases a1 with
        | none =>
          go_wp2
          go_meet
          case rel => exact ⟨none, c1, rfl, unhide h1', Below.refl _ _⟩
        | some ad =>
          have hb2 : i9.bytes * n1 ≤ 281474976710656 := by rw [hi92]; omega
          have hmx : n1 ≤ maxLen := by unfold maxLen; omega
          go_wp2_with (at_make; refine wpList_make_full _ rfl _ _ 22 rfl w.heap.size 9 i9 (.string ⟨#[]⟩) 1 Tryf.underlying22 hi9 hi90 hi91 _ _ _ _ n1 rfl rfl rfl rfl hb2 hmx (Nat.le_refl _) ?_)
          intro wm hown hgrow
          have hb1 : Below w.heap.size w wm := (Below.refl _ w).grown hgrow (Nat.le_refl _) (by simp)
          obtain ⟨wn, hrun, hown2, hb3⟩ := copy_strs wm 3 w.heap.size w.heap.size n1 _ hown (some ad) c1 req ((unhide h1').below hb1) w.heap.size w hb1 (Nat.le_refl _)
          have hr : Hid (StrS wn (.slice (some ⟨w.heap.size, 0, none⟩) n1 n1) req ∧ Below w.heap.size w wn) := ⟨strs_own hown2, hb3⟩
          clear hown hgrow hb1 hown2 hb3 hb2 hmx
          go_wp2
          go_meet
          case rel => exact ⟨_, _, rfl, (unhide hr).1, (unhide hr).2⟩
      case rest =>
        clear hnl1
        obtain ⟨wA, rfl⟩ : ∃ q : World, q = wc := ⟨_, rfl⟩
        obtain ⟨a3, c3, rfl, h3, hB3⟩ := hcut
        have h2A := hide ((unhide h2').below hB3)
        have h3' := hide h3
        have hB3' := hide hB3
        clear h3 hB3
        go_upto_if 35 with fail
        go_cut [2, 8] from 36 (fun v _ wr => ∃ a c, v = .slice a n2 c ∧ StrS wr v opt ∧ Below wA.heap.size wA wr)
        case first =>
          cases a2 with
          | none =>
            go_wp2
            go_meet
            case rel => exact ⟨none, c2, rfl, unhide h2A, Below.refl _ _⟩
          | some ad =>
            have hb2 : i9.bytes * n2 ≤ 281474976710656 := by rw [hi92]; omega
            have hmx : n2 ≤ maxLen := by unfold maxLen; omega
            go_wp2_with (at_make; refine wpList_make_full _ rfl _ _ 22 rfl wA.heap.size 9 i9 (.string ⟨#[]⟩) 1 Tryf.underlying22 hi9 hi90 hi91 _ _ _ _ n2 rfl rfl rfl rfl hb2 hmx (Nat.le_refl _) ?_)
            intro wm hown hgrow
            have hb1 : Below wA.heap.size wA wm := (Below.refl _ wA).grown hgrow (Nat.le_refl _) (by simp)
            obtain ⟨wn, hrun, hown2, hb3⟩ := copy_strs wm 3 wA.heap.size wA.heap.size n2 _ hown (some ad) c2 opt ((unhide h2A).below hb1) wA.heap.size wA hb1 (Nat.le_refl _)
            have hr : Hid (StrS wn (.slice (some ⟨wA.heap.size, 0, none⟩) n2 n2) opt ∧ Below wA.heap.size wA wn) := ⟨strs_own hown2, hb3⟩
            clear hown hgrow hb1 hown2 hb3 hb2 hmx
            go_wp2
            go_meet
            case rel => exact ⟨_, _, rfl, (unhide hr).1, (unhide hr).2⟩
        case rest =>
          clear hnl2 h2A
          obtain ⟨wB, rfl⟩ : ∃ q : World, q = wc := ⟨_, rfl⟩
          obtain ⟨a4, c4, rfl, h4, hB4⟩ := hcut
          have h3B := hide ((unhide h3').below hB4)
          have h4B := hide h4
          have hBB : Hid (Below w.heap.size w wB) := (unhide hB3').trans (hB4.mono (unhide hB3').size)
          clear h4 hB4 h3' hB3'
          have HN := hide (normalize_any s wB hsz)
          go_wp2_with fail
          refine (unhide HN).mono ?_
          rintro en wC ⟨v, rfl, hOb, hOB⟩
          obtain ⟨L, hL⟩ : ∃ L, L = Cs.norm s.data.toList := ⟨_, rfl⟩
          rw [← hL] at hOb
          obtain ⟨a5, c5, rfl⟩ := own_shapeN hOb
          have hLn : L.length ≤ 1048576 := by rw [hL]; have := Cs.norm_len s.data.toList; simp at this; omega
          have hby : BytAt wC a5 L ∧ L.length ≤ c5 := by
            rcases hOb.2 with ⟨h', h0⟩ | ⟨g, cap, cur, h', _⟩
            · simp only [Value.slice.injEq] at h'
              have : L = [] := List.eq_nil_of_length_eq_zero h0
              subst this
              exact ⟨fun j c hj => by simp at hj, by simp⟩
            · simp only [Value.slice.injEq] at h'
              obtain ⟨rfl, _, rfl⟩ := h'
              have := own_bytes hOb
              exact ⟨this.2, this.1⟩
          have HPc := hide (unhide HP' a5 L.length c5 L wC hLn rfl hby.2 hby.1)
          have hBC : Hid (Below w.heap.size w wC) := (unhide hBB).trans (hOB.mono (unhide hBB).size)
          have h3C := hide ((unhide h3B).below hOB)
          have h4C := hide ((unhide h4B).below hOB)
          have hL' := hide hL
          clear HN hOb hOB hby hL h3B h4B hBB HP'
          go_wp2_with fail
          refine (unhide HPc).mono ?_
          rintro en wD ⟨us, rv, sv, rfl, hRS⟩
          obtain ⟨M, hM⟩ : ∃ M, M = Cs.mach 4 [] [] 0 1 L := ⟨_, rfl⟩
          rw [← hM] at hRS ⊢
          obtain ⟨ra, rc, sa, sc, rfl, rfl⟩ := hRS.slices
          obtain ⟨m, hm⟩ : ∃ m, m = M.1.length := ⟨_, rfl⟩
          rw [← hm] at hRS ⊢
          have hm' := hide hm
          have hBD : Hid (Below w.heap.size w wD) := (unhide hBC).trans (hRS.bel.mono (unhide hBC).size)
          have h3D := hide ((unhide h3C).below hRS.bel)
          have h4D := hide ((unhide h4C).below hRS.bel)
          have hM' : Hid (Cs.mach 4 [] [] 0 1 (Cs.norm s.data.toList) = M) := by rw [Hid, hM, unhide hL']
          have hRl : m ≤ 1048577 := by
            have := Cs.mach_count L 4 [] [] 0 1
            rw [← hM] at this
            omega
          have hRS' := hide hRS
          have HTx := hide (fromText_any F s req opt a3 a4 n1 n2 c3 c4 ea fa wD (by rw [(unhide hBD).tape]; exact unhide hF') hsz (fun wr hb => ((unhide hE').below ((unhide hBD).trans (hb.mono (unhide hBD).size))).mono (unhide hBD).size) (unhide h3D) (unhide h4D) hn12 (unhide hzz))
          clear HPc hRS hM hL' h3C h4C hBC hm
          go_wp2_with fail
          refine (unhide HTx).mono ?_
          rintro en wE ⟨hBE, hcs⟩
          have hRSE := hide ((unhide hRS').below hBE)
          have hB2 : Hid (Below w.heap.size w wE) := (unhide hBD).trans (hBE.mono (unhide hBD).size)
          have h3E := hide ((unhide h3D).below hBE)
          have h4E := hide ((unhide h4D).below hBE)
          have hBE' := hide hBE
          clear HTx hBE h3D h4D
          by_cases hM0 : M.1 = []
          · have hM00 : m = 0 := by rw [unhide hm', hM0]; rfl
            subst hM00
            rcases hcs with ⟨_, t, p, rfl⟩ | ⟨x, st, P', nl', T, k1, _⟩
            · clear hM0
              go_wp2
              go_ret
              exact ⟨rfl, unhide hB2⟩
            · rw [unhide hM'] at k1
              rw [k1] at hM0
              cases hM0
          · obtain ⟨r, R, hMr⟩ := List.exists_cons_of_ne_nil hM0
            have hr0 : M.1[0]? = some r := by rw [hMr]; rfl
            obtain ⟨g, gc, g', gc', a0, d0, e1, e2, q1, q2, q3⟩ := (unhide hRSE).at hr0
            rw [← unhide hm'] at e1 e2
            simp only [Value.slice.injEq] at e1 e2
            obtain ⟨rfl, _, rfl⟩ := e1
            obtain ⟨rfl, _, rfl⟩ := e2
            have hM2 : 1 ≤ m := by rw [unhide hm', hMr]; simp
            have hM1 : ¬ (m : Int) = 0 := by omega
            have hM4 : (0 : Int) < m := by omega
            have hM5 : 0 < m := by omega
            have hM3 : ((m : Int) == 0) = false := by rw [beq_eq_false_iff_ne]; exact hM1
            have hrm : r ∈ (Cs.mach 4 [] [] 0 1 (Cs.norm s.data.toList)).1 := by rw [unhide hM', hMr]; simp
            have hxl : r.1.length ≤ 1048577 := by
              have := Cs.mach_len _ _ _ _ _ _ r hrm
              have := Cs.norm_len s.data.toList
              simp at *
              omega
            have hxs : ∀ t ∈ strsOf r.1, t.size ≤ 2097152 := fun t ht => by
              obtain ⟨f, hf, rfl⟩ := List.mem_map.1 ht
              have := Cs.mach_size 1048576 _ 4 [] [] 0 1 (by have := Cs.norm_len s.data.toList; simp at *; omega) (by simp) r hrm f hf
              show f.toArray.size ≤ _
              simp; omega
            have HH := hide (headerNames_any a0 r.1.length d0 (strsOf r.1) wE q3 (by omega) hxs)
            have hMr' := hide hMr
            clear hrm hxs hMr hM0 hr0
            rcases hcs with ⟨hno, t, p, rfl⟩ | ⟨x, st, P', nl', T, k1, k2, k3, k4, k5, rfl, k6⟩
            · have hno' := hide hno
              clear hno
              go_wp2_with fail
              refine (unhide HH).mono ?_
              rintro en wF ⟨v, rfl, hvS, hBF⟩
              obtain ⟨ah, ch, rfl⟩ : ∃ ah ch, v = .slice ah r.1.length ch := by
                obtain ⟨ah, ch, e, _⟩ := id hvS
                exact ⟨ah, ch, by rw [e, hdrOf_length]; simp [strsOf]⟩
              have HA := hide (accepts_any ah a3 a4 r.1.length n1 n2 ch c3 c4 (hdrOf (strsOf r.1)) req opt wF hvS ((unhide h3E).below hBF) ((unhide h4E).below hBF) (by omega) (by omega))
              have hBF' := hide hBF
              clear HH hvS hBF
              go_wp2_with fail
              refine (unhide HA).mono ?_
              rintro en wG ⟨b, rfl, hbA, hBG⟩
              have hB3 : Hid (Below w.heap.size w wG) := (unhide hB2).trans (((unhide hBF').trans (hBG.mono (unhide hBF').size)).mono (unhide hB2).size)
              have hbf : b = false := by
                cases b with
                | false => rfl
                | true =>
                  exfalso
                  refine unhide hno' r.1 r.2 R ?_ (hbA.1 rfl)
                  rw [unhide hM', unhide hMr']
              subst hbf
              clear HA hbA hBG hBF' h3E h4E
              go_wp2
              go_ret
              exact ⟨rfl, unhide hB3⟩
            · have k6' := hide k6
              have k1' := hide k1
              have k2' := hide k2
              have k3' := hide k3
              clear k6 k1 k2 k3
              go_wp2_with fail
              refine (unhide HH).mono ?_
              rintro en wF ⟨v, rfl, hvS, hBF⟩
              obtain ⟨ah, ch, rfl⟩ : ∃ ah ch, v = .slice ah r.1.length ch := by
                obtain ⟨ah, ch, e, _⟩ := id hvS
                exact ⟨ah, ch, by rw [e, hdrOf_length]; simp [strsOf]⟩
              have HA := hide (accepts_any ah a3 a4 r.1.length n1 n2 ch c3 c4 (hdrOf (strsOf r.1)) req opt wF hvS ((unhide h3E).below hBF) ((unhide h4E).below hBF) (by omega) (by omega))
              have hBF' := hide hBF
              clear HH hvS hBF
              go_wp2_with fail
              refine (unhide HA).mono ?_
              rintro en wG ⟨b, rfl, hbA, hBG⟩
              have hBEG : Hid (Below wE.heap.size wE wG) := (unhide hBF').trans (hBG.mono (unhide hBF').size)
              have hB3 : Hid (Below w.heap.size w wG) := (unhide hB2).trans ((unhide hBEG).mono (unhide hB2).size)
              have k1 := unhide k1'
              have k2 := unhide k2'
              have k3 := unhide k3'
              have k6 := unhide k6'
              clear k1' k2' k3' k6'
              have hbt : b = true := hbA.2 (by
                have h6 := k1
                rw [unhide hM'] at h6
                have h5 := unhide hMr'
                rw [h6] at h5
                simp at h5
                rw [← h5.1]; exact k2)
              subst hbt
              clear HA hbA hBG hBF' h3E h4E
              rw [unhide hM'] at k1
              have h5 := unhide hMr'
              have k1b : M.2 = (Cs.mach 4 [] [] 0 (nl' + 1) (Cs.norm P')).2 := by rw [k1]
              have k1a : R = (Cs.mach 4 [] [] 0 (nl' + 1) (Cs.norm P')).1 ∧ r = (x, st) := by
                rw [k1] at h5
                simp at h5
                exact ⟨h5.2.symm, h5.1.symm⟩
              obtain ⟨k1a, rfl⟩ := k1a
              clear h5 k1
              have kk : Hid (M.2 = (Cs.mach 4 [] [] 0 (nl' + 1) (Cs.norm P')).2 ∧ R = (Cs.mach 4 [] [] 0 (nl' + 1) (Cs.norm P')).1) := ⟨k1b, k1a⟩
              have k3' := hide k3
              have hTG := hide (k6.below (unhide hBEG))
              have q1G : wG.cell? ⟨g, 0, none⟩ = some (.slice a0 x.length d0) := by rw [(unhide hBEG).cell (World.block_lt_of_cell? wE _ q1)]; exact q1
              have q2G : wG.cell? ⟨g', 0, none⟩ = some (.int .i64 st) := by rw [(unhide hBEG).cell (World.block_lt_of_cell? wE _ q2)]; exact q2
              have hgl := World.block_lt_of_cell? wG _ q1G
              have hgl' := World.block_lt_of_cell? wG _ q2G
              have HL := hide (fun (wx : World) (h : Below wG.heap.size wG wx) => line_any _ T s P' ea _ nl' st _ wx ((unhide hTG).below h))
              clear k1a k1b k2 k3 k6 q1 q2 q3
              go_upto_region 19 with fail
              go_cut [83] from 78 (fun b wx => b = .bool false ∧ Below wG.heap.size wG wx)
              case first =>
                have kdr : Below wG.heap.size wG wG.drew := ⟨rfl, rfl, rfl, Nat.le_refl _, fun _ _ => rfl⟩
                have HSof : Hid (∀ wx, Below wG.heap.size wG wx → (Below wG.heap.size wG wx ∧ wx.cell? ⟨g', 0, none⟩ = some (.int .i64 st))) := fun wx h => ⟨h, by rw [h.cell hgl']; exact q2G⟩
                go_region_held3 (fun wx => Below wG.heap.size wG wx ∧ wx.cell? ⟨g', 0, none⟩ = some (.int .i64 st))
                  (exact unhide HSof _ (by first | assumption | exact kdr))
                  (first
                    | (go_at_call 29; refine (unhide HL _ ?_).mono ?_; exact kdr; rintro e w16 ⟨rfl, k1⟩; have kb1 : Below wG.heap.size wG w16 := kdr.trans (k1.mono kdr.size); clear k1))
                go_wp2
                go_meet
                case rel => exact ⟨by simp, by first | assumption | exact kb1⟩
              case rest =>
                obtain ⟨wH, rfl⟩ : ∃ q : World, q = wc := ⟨_, rfl⟩
                obtain ⟨rfl, hBH⟩ := hcut
                have q1H : wH.cell? ⟨g, 0, none⟩ = some (.slice a0 x.length d0) := by rw [hBH.cell hgl]; exact q1G
                have hmid : Hid (Mid wD.heap.size T s ea x.length M wD 1 wH) := ⟨P', nl', st, _, (unhide hTG).below hBH, (unhide hBE').trans (((unhide hBEG).trans (hBH.mono (unhide hBEG).size)).mono (unhide hBE').size), unhide k3', by rw [unhide hMr']; exact (unhide kk).2, (unhide kk).1⟩
                have hx0 : (0 : Int) < x.length ∧ (x.length : Int) ≤ 1048576000 := by omega
                clear hBH HL hTG q1G q2G kk
                go_wp2
                clear q1H
                go_loopw [15] (fun kv wr => ∃ k : Nat, 1 ≤ k ∧ k ≤ m ∧ kv = .int .i64 k ∧ Mid wD.heap.size T s ea x.length M wD k wr) (fun kv _ => m - (intOf kv).toNat)
                case atStart => exact ⟨1, Nat.le_refl _, hM2, rfl, unhide hmid⟩
                case round =>
                  clear hmid
                  obtain ⟨k, hk1, hkm, rfl, P, nl, st2, rcv, hTR, hBr, hnl, hd1, hd2⟩ := hrel
                  have hfin : Hid (Below w.heap.size w wr) := (unhide hBD).trans (hBr.mono (unhide hBD).size)
                  by_cases hlt : k < m
                  · obtain ⟨rk, hrk⟩ : ∃ rk, M.1[k]? = some rk := ⟨M.1[k]'(by have := unhide hm'; omega), by simp⟩
                    obtain ⟨_, _, _, _, ak, dk, e1, e2, qk1, qk2, _⟩ := ((unhide hRS').below hBr).at hrk
                    rw [← unhide hm'] at e1 e2
                    simp only [Value.slice.injEq, Option.some.injEq, Addr.mk.injEq, and_true, true_and] at e1 e2
                    obtain ⟨rfl, rfl⟩ := e1
                    obtain ⟨rfl, rfl⟩ := e2
                    have hdk : M.1.drop k = rk :: M.1.drop (k + 1) := by
                      obtain ⟨h1, h2⟩ := List.getElem?_eq_some_iff.1 hrk
                      rw [List.drop_eq_getElem_cons h1, h2]
                    rw [hdk] at hd1
                    by_cases hwd : rk.1.length = x.length
                    · have hwI : ((rk.1.length : Int) == x.length) = true := by rw [beq_iff_eq]; omega
                      have HNx := hide (next_any _ T s P ea fa x.length nl st2 rcv wr hTR (((unhide hE').below (unhide hfin)).mono (unhide hBD).size) (by omega) hx0)
                      have hd1' := hide hd1
                      have hd2' := hide hd2
                      have hBr' := hide hBr
                      have hrk' := hide hrk
                      clear hd1 hd2 hBr hTR hdk hrk
                      go_wp2_with fail
                      refine (unhide HNx).mono ?_
                      rintro en wI ⟨hBI, hcs2⟩
                      have hBI2 : Hid (Below wD.heap.size wD wI) := (unhide hBr').trans hBI
                      clear HNx
                      have hd1 := unhide hd1'
                      have hd2 := unhide hd2'
                      rcases hcs2 with ⟨hz, _⟩ | ⟨hz, _⟩ | ⟨x2, st3, P2, nl2, hm2, hle2, hcs3⟩
                      · rw [hz] at hd1; cases hd1
                      · rw [hz] at hd1; cases hd1
                      · rw [hm2] at hd1 hd2
                        simp only [List.cons.injEq] at hd1 hd2
                        obtain ⟨rfl, hd1⟩ := hd1
                        rcases hcs3 with ⟨hne, _⟩ | ⟨_, rfl, rcv2, hTR2, _⟩
                        · exact absurd (by simp at hwd; omega) hne
                        · obtain ⟨_, _, _, _, _, _, e1, e2, _, qk2I, _⟩ := ((unhide hRS').below (unhide hBI2)).at (unhide hrk')
                          rw [← unhide hm'] at e1 e2
                          simp only [Value.slice.injEq, Option.some.injEq, Addr.mk.injEq, and_true, true_and] at e1 e2
                          obtain ⟨rfl, rfl⟩ := e1
                          obtain ⟨rfl, rfl⟩ := e2
                          have hglI := World.block_lt_of_cell? wI _ qk2I
                          have HL := hide (fun (wx : World) (h : Below wI.heap.size wI wx) => line_any _ T s P2 ea _ nl2 st3 _ wx (hTR2.below h))
                          have hnext : Hid (∀ wx, Below wI.heap.size wI wx → Mid wD.heap.size T s ea x.length M wD (k + 1) wx) := fun wx hb => ⟨P2, nl2, st3, rcv2, hTR2.below hb, (unhide hBI2).trans (hb.mono (unhide hBI2).size), by omega, hd1, hd2⟩
                          have hkI : (0 : Int) ≤ k ∧ (k : Int) < m := by omega
                          have hkI1 := hkI.1
                          have hkI2 := hkI.2
                          clear hd1 hd2 hTR2 hBI hkI hd1' hd2' hrk' hBr' qk1 qk2
                          go_upto_region 27 with fail
                          go_cut [112] from 106 to 112 (fun b wx => b = .bool false ∧ Below wI.heap.size wI wx)
                          case first =>
                            have kdr : Below wI.heap.size wI wI.drew := ⟨rfl, rfl, rfl, Nat.le_refl _, fun _ _ => rfl⟩
                            have HSof : Hid (∀ wx, Below wI.heap.size wI wx → (Below wI.heap.size wI wx ∧ wx.cell? ⟨g', k, none⟩ = some (.int .i64 st3))) := fun wx h => ⟨h, by rw [h.cell hglI]; exact qk2I⟩
                            go_region_held3 (fun wx => Below wI.heap.size wI wx ∧ wx.cell? ⟨g', k, none⟩ = some (.int .i64 st3))
                              (exact unhide HSof _ (by first | assumption | exact kdr))
                              (first
                                | (go_at_call 29; refine (unhide HL _ ?_).mono ?_; exact kdr; rintro e w16 ⟨rfl, k1⟩; have kb1 : Below wI.heap.size wI w16 := kdr.trans (k1.mono kdr.size); clear k1))
                            go_wp2
                            go_meet
                            case rel => exact ⟨by simp, by first | assumption | exact kb1⟩
                          case rest =>
                            obtain ⟨wJ, rfl⟩ : ∃ q : World, q = wc := ⟨_, rfl⟩
                            obtain ⟨rfl, hBJ⟩ := hcut
                            have hmJ := hide (unhide hnext wJ hBJ)
                            clear hBJ hnext HL qk2I
                            go_wp2
                            go_roundw
                            case rel => exact ⟨k + 1, by omega, by omega, by go_num, unhide hmJ⟩
                            case measure => simp [intOf]; omega
                    · have hwI : ((rk.1.length : Int) == x.length) = false := by rw [beq_eq_false_iff_ne]; omega
                      clear hd1 hd2 hTR hdk hrk hBr
                      go_wp2
                      go_ret
                      exact ⟨rfl, unhide hfin⟩
                  · clear hd1 hd2 hTR hBr
                    go_wp2
                    go_ret
                    exact ⟨rfl, unhide hfin⟩
end Go.Proofs.Qxb6612546aFmt
