import Derived.Test.Qxb6612546aFmtTopQ
import Derived.Deep.RegionHeld3
namespace Go.Proofs.Qxb6612546aFmt
open Go.RowKit Go.Extern.Stop Go.Stop Go.Extern

set_option maxRecDepth 100000 in
set_option maxHeartbeats 4000000 in
theorem counts_any (F : Interp) (xs : List ByteArray) (xss : List (List ByteArray)) (a1 a2 : Option Addr) (n1 n2 c1 c2 : Nat) (ea fa : Addr) (w : World) (hF : F.answers w.tape) (hE : Env w w.heap.size ea fa)
    (h1 : StrS w (.slice a1 n1 c1) xs) (h2 : RowsS w (.slice a2 n2 c2) xss) : Calls Tryf.prog 7 #[.slice a1 n1 c1, .slice a2 n2 c2] w (LawPost w) := by
  obtain ⟨i9, hi9, hi90, hi91, hi92⟩ := info_parts Tryf.info9
  have HB := hide (bytesCounts a1 a2 n1 n2 c1 c2 xs xss w h1 h2)
  have h1' := hide h1
  have h2' := hide h2
  have hF' := hide hF
  have hE' := hide hE
  have hl1 := hide h1.some_cases.1
  have hl2 := hide h2.cells.1
  clear h1 h2 hF hE
  go_enter Tryf.func7, Tryf.ntmps7
  go_wp2_with fail
  refine (unhide HB).mono ?_
  rintro en wx ⟨b, rfl, hbb, hw⟩
  replace hw := hw.symm
  subst hw
  clear HB
  cases b with
  | false =>
    clear hbb
    go_wp2
    go_ret
    exact ⟨rfl, Below.refl _ _⟩
  | true =>
    have hsum := hide (hbb rfl)
    clear hbb
    have hq1 := unhide hl1
    have hq2 := unhide hl2
    have hn1 : n1 ≤ 1048576 := by have := unhide hsum; omega
    have hn2 : n2 ≤ 1048576 := by have := unhide hsum; omega
    have hz1 : Hid (∀ t ∈ xs, t.size ≤ 1048576) := fun t ht => by have := unhide hsum; have := sizes_mem ht; omega
    have hz2 : Hid (∀ r ∈ xss, r.length + sizes r ≤ 1048576) := fun r hr => by
      have := unhide hsum
      have := tot_mem hr
      omega
    have hwid := hide (wids_all xs xss (unhide hsum))
    have HT := hide (tooBig2_any a1 a2 n1 n2 c1 c2 xs xss w (unhide h1') (unhide h2') hn1 (fun r hr => by have := unhide hz2 r hr; omega) hn2)
    clear hq1 hq2
    go_wp2_with fail
    refine (unhide HT).mono ?_
    rintro en wx ⟨b, rfl, hw⟩
    replace hw := hw.symm
    subst hw
    clear HT
    cases b with
    | true =>
      go_wp2
      go_ret
      exact ⟨rfl, Below.refl _ _⟩
    | false =>
      have HNm := hide (names_any a1 n1 c1 xs w (unhide h1') hn1 (unhide hz1))
      go_wp2_with fail
      refine (unhide HNm).mono ?_
      rintro en wA ⟨b, rfl, hnm, hBA⟩
      have hBA' := hide hBA
      clear HNm
      cases b with
      | false =>
        clear hnm hBA
        go_wp2
        go_ret
        exact ⟨rfl, unhide hBA'⟩
      | true =>
        obtain ⟨hne, hnd, hbom, hcr⟩ := hnm rfl
        have hne' := hide hne
        have hnd' := hide hnd
        have hbom' := hide hbom
        have hcr' := hide hcr
        have h1A := hide ((unhide h1').below hBA)
        have h2A := hide ((unhide h2').below hBA)
        clear hnm hBA hne hnd hbom hcr
        have hnl1 := fun w => run_neq_slice_nil_any (P := Tryf.prog) w 22 9 a1 n1 c1 0 0 Tryf.underlying22
        go_upto_if 22 with fail
        go_cut [0, 5] from 23 (fun v _ wr => ∃ a c, v = .slice a n1 c ∧ StrS wr v xs ∧ Below wA.heap.size wA wr)
        case first =>
          cases a1 with
          | none =>
            go_wp2
            go_meet
            case rel => exact ⟨none, c1, rfl, unhide h1A, Below.refl _ _⟩
          | some ad =>
            have hb2 : i9.bytes * n1 ≤ 281474976710656 := by rw [hi92]; omega
            have hmx : n1 ≤ maxLen := by unfold maxLen; omega
            go_wp2_with (at_make; refine wpList_make_full _ rfl _ _ 22 rfl wA.heap.size 9 i9 (.string ⟨#[]⟩) 1 Tryf.underlying22 hi9 hi90 hi91 _ _ _ _ n1 rfl rfl rfl rfl hb2 hmx (Nat.le_refl _) ?_)
            intro wm hown hgrow
            have hb1 : Below wA.heap.size wA wm := (Below.refl _ wA).grown hgrow (Nat.le_refl _) (by simp)
            obtain ⟨wn, hrun, hown2, hb3⟩ := copy_strs wm 3 wA.heap.size wA.heap.size n1 _ hown (some ad) c1 xs ((unhide h1A).below hb1) wA.heap.size wA hb1 (Nat.le_refl _)
            have hr : Hid (StrS wn (.slice (some ⟨wA.heap.size, 0, none⟩) n1 n1) xs ∧ Below wA.heap.size wA wn) := ⟨strs_own hown2, hb3⟩
            clear hown hgrow hb1 hown2 hb3 hb2 hmx
            go_wp2
            go_meet
            case rel => exact ⟨_, _, rfl, (unhide hr).1, (unhide hr).2⟩
        case rest =>
          clear hnl1
          obtain ⟨wB, rfl⟩ : ∃ q : World, q = wc := ⟨_, rfl⟩
          obtain ⟨a3, c3, rfl, h3, hB3⟩ := hcut
          have h3' := hide h3
          have h2B := hide ((unhide h2A).below hB3)
          have hBB : Hid (Below w.heap.size w wB) := (unhide hBA').trans (hB3.mono (unhide hBA').size)
          clear h3 hB3 h1A h2A hBA'
          go_wp2
          go_loopw [6] (fun kv wr => ∃ k : Nat, k ≤ n2 ∧ kv = .int .i64 k ∧ wr = wB ∧ ∀ r ∈ xss.take k, r.length = 0 ∨ r.length = n1) (fun kv _ => n2 - (intOf kv).toNat)
          case atStart => exact ⟨0, Nat.zero_le _, rfl, rfl, by simp⟩
          case round =>
            obtain ⟨k, hk, rfl, hw, hkc⟩ := hrel
            replace hw := hw.symm
            subst hw
            have hkc' := hide hkc
            clear hkc
            by_cases hlt : k < n2
            · obtain ⟨r, hr⟩ : ∃ r, xss[k]? = some r := ⟨xss[k]'(by have := unhide hl2; omega), by simp⟩
              obtain ⟨b1, o1, u, d, e1, cx, hS⟩ := (unhide h2B).cells.2 k r hr
              subst e1
              obtain ⟨rl, hrl⟩ : ∃ q, q = r.length := ⟨_, rfl⟩
              rw [← hrl] at cx
              have hrz := unhide hz2 r (List.mem_of_getElem? hr)
              have hrb : rl ≤ 1048576 := by omega
              have hr' := hide hr
              have hrl' := hide hrl
              clear hr hS hrl
              have hall : Hid ((rl = 0 ∨ rl = n1) → ∀ q ∈ xss.take (k + 1), q.length = 0 ∨ q.length = n1) := fun ho q hq => by
                obtain ⟨hi2, e⟩ := List.getElem?_eq_some_iff.1 (unhide hr')
                rw [List.take_succ_eq_append_getElem hi2, List.mem_append, List.mem_singleton] at hq
                rcases hq with hq | rfl
                · exact unhide hkc' q hq
                · rw [e, ← unhide hrl']; exact ho
              go_upto_region 14 with fail
              go_cut [51] from 36 to 51 (fun b wx => wx = wB ∧ ((b = .bool false ∧ (rl = 0 ∨ rl = n1)) ∨ b = .bool true))
              case first =>
                by_cases h0 : rl = 0
                · subst h0
                  go_wp2
                  go_meet
                  case rel => exact ⟨by first | rfl | simp, .inl ⟨by simp, by simp⟩⟩
                · have h0I : ¬ (rl : Int) = 0 := by omega
                  by_cases h1e : rl = n1
                  · subst h1e
                    go_wp2
                    go_meet
                    case rel => exact ⟨by first | rfl | simp, .inl ⟨by simp, by simp⟩⟩
                  · have h1I : ¬ (rl : Int) = n1 := by omega
                    go_wp2
                    go_meet
                    case rel => exact ⟨by first | rfl | simp, .inr (by simp [h0, h1I])⟩
              case rest =>
                obtain ⟨hw, hq⟩ := hcut
                replace hw := hw.symm
                subst hw
                rcases hq with ⟨rfl, ho⟩ | rfl
                · have hal := hide (unhide hall ho)
                  clear hall ho cx
                  go_wp2
                  go_roundw
                  case rel => exact ⟨k + 1, by omega, by go_num, by first | rfl | simp, unhide hal⟩
                  case measure => simp [intOf]; omega
                · clear hall cx
                  go_wp2
                  go_ret
                  exact ⟨rfl, unhide hBB⟩
            · have hall : Hid (∀ q ∈ xss, q.length = 0 ∨ q.length = n1) := fun q hq => unhide hkc' q (by rw [List.take_of_length_le (by have := unhide hl2; omega)]; exact hq)
              clear hkc'
              have HEn := hide (encode_any a3 a2 n1 n2 c3 c2 xs xss wB (unhide h3') (unhide h2B) (unhide hz1) (fun r hr => ⟨by have := unhide hz2 r hr; omega, fun t ht => by have := unhide hz2 r hr; have := sizes_mem ht; omega⟩) hn1 hn2 (unhide hwid))
              obtain ⟨sE, hsE⟩ : ∃ q : ByteArray, q = ⟨(Cs.encRows (rowsOf2 (xs :: xss))).toArray⟩ := ⟨_, rfl⟩
              rw [← hsE] at HEn
              have hsE' : Hid (sE = encS xs xss) := hsE
              clear hsE
              go_wp2_with fail
              refine (unhide HEn).mono ?_
              rintro en wC ⟨rfl, hBC⟩
              have hBC2 : Hid (Below w.heap.size w wC) := (unhide hBB).trans (hBC.mono (unhide hBB).size)
              have h2C := hide ((unhide h2B).below hBC)
              have h3C := hide ((unhide h3').below hBC)
              have hsz : sE.size ≤ 4194304 := by rw [unhide hsE']; exact encS_size _ _ (unhide hwid)
              have HTx := hide (fromText_any F sE xs [] a3 none n1 0 c3 0 ea fa wC (by rw [(unhide hBC2).tape]; exact unhide hF') hsz (fun wr hb => ((unhide hE').below ((unhide hBC2).trans (hb.mono (unhide hBC2).size))).mono (unhide hBC2).size) (unhide h3C) (StrS.nil _) (by omega) (fun t ht => by rcases ht with ht | ht; exact Nat.le_trans (unhide hz1 t ht) (by decide); simp at ht))
              clear HEn hBC h3' h2B hBB
              go_wp2_with fail
              refine (unhide HTx).mono ?_
              intro en wD hpost
              obtain ⟨hBD, T, rfl, hx0, P0, nl0, rcv0, hTR0, hle0, hm0⟩ := made_of (unhide hsE') (unhide hne') (unhide hnd') (unhide hbom') (unhide hcr') hpost
              have hl1e : xs.length = n1 := unhide hl1
              rw [hl1e] at hTR0 hx0
              have hBD' := hide hBD
              have hBwD : Hid (Below w.heap.size w wD) := (unhide hBC2).trans (hBD.mono (unhide hBC2).size)
              clear HTx hpost hl1e
              have HL1 := hide (line_any _ T sE P0 ea n1 nl0 1 rcv0 wD hTR0)
              have hTR0' := hide hTR0
              have hm0' := hide hm0
              have hx0I : (0 : Int) < n1 ∧ (n1 : Int) ≤ 1048576000 := by omega
              clear hTR0 hm0 hBD
              go_wp2_with fail
              refine (unhide HL1).mono ?_
              rintro en wE ⟨rfl, hBE⟩
              have hBE2 : Hid (Below wC.heap.size wC wE) := (unhide hBD').trans (hBE.mono (unhide hBD').size)
              have hnx : xs.length + sizes xs ≤ 1048576 := by have := unhide hsum; omega
              have hnx2 : n1 + sizes xs ≤ 1048576 := by have := unhide hl1; omega
              have HNl := hide (newlines_any a3 n1 c3 xs wE ((unhide h3C).below (unhide hBE2)) hn1 hnx2)
              have hmid : Hid (Mid2 wC.heap.size T sE ea n1 wC (2 + Cs.nls (bytesOf xs)) ((xss.drop 0).map nrow) wE) := ⟨P0, nl0, 1, rcv0, (unhide hTR0').below hBE, unhide hBE2, hle0, by simpa using unhide hm0'⟩
              clear HL1 hBE hTR0' hm0'
              go_wp2_with fail
              refine (unhide HNl).mono ?_
              rintro en wE2 ⟨rfl, hw⟩
              replace hw := hw.symm
              subst hw
              obtain ⟨l0, hl0⟩ : ∃ q, q = Cs.nls (bytesOf xs) := ⟨_, rfl⟩
              rw [← hl0] at hmid ⊢
              have hl0b : l0 ≤ sizes xs := by rw [hl0]; exact nls_le xs
              clear HNl hl0
              go_wp2
              go_loopw [9, 10] (fun lv kv wr => ∃ k ln : Nat, k ≤ n2 ∧ kv = .int .i64 k ∧ lv = .int .i64 ln ∧ ln ≤ 2 + sizes xs + k + tot (xss.take k) ∧ Mid2 wC.heap.size T sE ea n1 wC ln ((xss.drop k).map nrow) wr) (fun _ kv _ => n2 - (intOf kv).toNat)
              case atStart => exact ⟨0, 2 + l0, Nat.zero_le _, rfl, by go_num, by simp [tot]; omega, unhide hmid⟩
              case round =>
                clear hmid
                obtain ⟨k, ln, hkn, rfl, rfl, hlnb, P, nl, st, rcv, hTR, hBr, hnl, hm⟩ := hrel
                have hfin : Hid (Below w.heap.size w wr) := (unhide hBC2).trans (hBr.mono (unhide hBC2).size)
                have hEr := ((unhide hE').below (unhide hfin)).mono (unhide hBC2).size
                have HNx := hide (next_any _ T sE P ea fa n1 nl st rcv wr hTR hEr (by omega) hx0I)
                have hlnb2 : ln ≤ 4194304 := by
                  have := tot_take_le xss k
                  have := unhide hsum
                  omega
                have hlnb' := hide hlnb
                have hTR' := hide hTR
                have hm' := hide hm
                have hBr' := hide hBr
                clear hTR hm hBr hEr hlnb
                by_cases hlt2 : k < n2
                · obtain ⟨r, hr⟩ : ∃ r, xss[k]? = some r := ⟨xss[k]'(by have := unhide hl2; omega), by simp⟩
                  have hdk : Hid ((xss.drop k).map nrow = nrow r :: (xss.drop (k + 1)).map nrow) := by
                    obtain ⟨q1, q2⟩ := List.getElem?_eq_some_iff.1 hr
                    rw [Hid, List.drop_eq_getElem_cons q1, q2, List.map_cons]
                  obtain ⟨b1, o1, u, d, e1, cx, hS⟩ := ((unhide h2C).below (unhide hBr')).cells.2 k r hr
                  subst e1
                  obtain ⟨rl, hrl⟩ : ∃ q, q = r.length := ⟨_, rfl⟩
                  rw [← hrl] at cx
                  have hrz := unhide hz2 r (List.mem_of_getElem? hr)
                  have hrb : rl ≤ 1048576 := by omega
                  have htk := hide (tot_take xss k r hr)
                  have hwd := unhide hall r (List.mem_of_getElem? hr)
                  rw [← hrl] at hwd
                  obtain ⟨lr, hlr⟩ : ∃ q, q = Cs.nls (bytesOf r) := ⟨_, rfl⟩
                  have hlrb : lr ≤ sizes r := by rw [hlr]; exact nls_le r
                  have HNr : Hid (∀ wq, Below wC.heap.size wC wq → ∃ u d, wq.cell? ⟨b1, o1 + k, none⟩ = some (.slice u rl d) ∧ Calls Tryf.prog 31 #[.slice u rl d] wq fun e w' => e = .returned (.int .i64 lr) ∧ w' = wq) := fun wq hb => by
                    obtain ⟨_, _, u2, d2, e1, cx2, hS2⟩ := ((unhide h2C).below hb).cells.2 k r hr
                    cases e1
                    rw [← hrl] at cx2 hS2
                    refine ⟨u2, d2, cx2, ?_⟩
                    rw [hlr]
                    exact newlines_any u2 rl d2 r wq hS2 hrb (by omega)
                  have hrl' := hide hrl
                  have hr' := hide hr
                  have hlr' := hide hlr
                  clear hrl hS hr hlr
                  by_cases h0 : rl = 0
                  · subst h0
                    have hr0 : r = [] := List.eq_nil_of_length_eq_zero (unhide hrl').symm
                    have hlr0 : lr = 0 := by rw [unhide hlr', hr0]; rfl
                    have hm2 : Hid (Cs.mach 4 [] [] 0 (nl + 1) (Cs.norm P) = (Cs.recs (ln + 1) ((xss.drop (k + 1)).map nrow), false)) := by
                      rw [Hid, unhide hm', unhide hdk, hr0]; rfl
                    obtain ⟨u2, d2, cx2, HNl⟩ := unhide HNr wr (unhide hBr')
                    rw [cx] at cx2
                    cases cx2
                    have HNl' := hide HNl
                    clear HNx HNl HNr
                    subst hlr0
                    go_wp2_with fail
                    refine (unhide HNl').mono ?_
                    rintro en wJ ⟨rfl, hw⟩
                    replace hw := hw.symm
                    subst hw
                    clear HNl'
                    go_wp2
                    go_roundw
                    case rel => exact ⟨k + 1, ln + 1, by omega, by go_num, by go_num, by have := unhide hlnb'; have := unhide htk; omega, P, nl, st, rcv, unhide hTR', unhide hBr', hnl, unhide hm2⟩
                    case measure => simp [intOf]; omega
                  · have hr1' : Hid (rl = n1) := by rw [Hid]; omega
                    have h0I : (0 : Int) < rl := by omega
                    clear hwd
                    have hnr : nrow r ≠ [] := fun e => h0 (by have := congrArg List.length e; rw [nrow_length] at this; rw [unhide hrl']; simpa using this)
                    have hm2 : Hid (Cs.mach 4 [] [] 0 (nl + 1) (Cs.norm P) = ((nrow r, ln) :: Cs.recs (ln + 1 + Cs.nls (nrow r)) ((xss.drop (k + 1)).map nrow), false)) := by
                      rw [Hid, unhide hm', unhide hdk, recs_cons _ _ _ hnr]
                    clear hnr
                    go_wp2_with fail
                    refine (unhide HNx).mono ?_
                    rintro en wI ⟨hBI, hcs2⟩
                    have hBI2 : Hid (Below wC.heap.size wC wI) := (unhide hBr').trans hBI
                    rw [unhide hm2] at hcs2
                    clear HNx cx
                    rcases hcs2 with ⟨hz, _⟩ | ⟨hz, _⟩ | ⟨x2, st3, P2, nl2, hm3, hle2, hcs3⟩
                    · cases hz
                    · cases hz
                    · simp only [Prod.mk.injEq, List.cons.injEq] at hm3
                      obtain ⟨⟨⟨hx2, rfl⟩, hm4⟩, hm5⟩ := hm3
                      have hx2l : x2.length = rl := by rw [← hx2, nrow_length, unhide hrl']
                      rw [hx2l] at hcs3
                      rcases hcs3 with ⟨hnw, _⟩ | ⟨heq, rfl, rcv2, hTR2, hSr⟩
                      · exact absurd (by have := unhide hr1'; omega) hnw
                      · have HL2 := hide (line_any _ T sE P2 ea n1 nl2 ln _ wI hTR2)
                        have hnext : Hid (∀ wq, Below wI.heap.size wI wq → Mid2 wC.heap.size T sE ea n1 wC (ln + 1 + lr) ((xss.drop (k + 1)).map nrow) wq) := fun wq hb => ⟨P2, nl2, ln, _, hTR2.below hb, (unhide hBI2).trans (hb.mono (unhide hBI2).size), by omega, by rw [unhide hlr', ← nls_nrow]; exact Prod.ext hm4.symm hm5.symm⟩
                        clear hm4 hm5 hBI hTR2 hSr heq hx2 hx2l
                        go_wp2_with fail
                        refine (unhide HL2).mono ?_
                        rintro en wJ ⟨rfl, hBJ⟩
                        have hBJ2 : Below wC.heap.size wC wJ := (unhide hBI2).trans (hBJ.mono (unhide hBI2).size)
                        obtain ⟨u2, d2, cx2, HNl⟩ := unhide HNr wJ hBJ2
                        have HNl' := hide HNl
                        have hnJ := hide (unhide hnext wJ hBJ)
                        clear HL2 hBJ hBJ2 HNl HNr hnext
                        go_wp2_with fail
                        refine (unhide HNl').mono ?_
                        rintro en wK ⟨rfl, hw⟩
                        replace hw := hw.symm
                        subst hw
                        clear HNl'
                        go_wp2
                        go_roundw
                        case rel => exact ⟨k + 1, ln + 1 + lr, by omega, by go_num, by go_num, by have := unhide hlnb'; have := unhide htk; omega, unhide hnJ⟩
                        case measure => simp [intOf]; omega
                · have hm2 : Hid (Cs.mach 4 [] [] 0 (nl + 1) (Cs.norm P) = ([], false)) := by
                    rw [Hid, unhide hm', List.drop_of_length_le (by have := unhide hl2; omega)]; rfl
                  go_wp2_with fail
                  refine (unhide HNx).mono ?_
                  rintro en wI ⟨hBI, hcs2⟩
                  have hfinI : Hid (Below w.heap.size w wI) := (unhide hBC2).trans (((unhide hBr').trans hBI).mono (unhide hBC2).size)
                  rw [unhide hm2] at hcs2
                  clear HNx hBI
                  rcases hcs2 with ⟨_, rfl⟩ | ⟨hz, _⟩ | ⟨x2, st3, P2, nl2, hm3, _⟩
                  · have HEo := hide (isEOF_yes _ ea fa wI (((unhide hE').below (unhide hfinI)).mono (unhide hBC2).size))
                    go_wp2_with fail
                    refine (unhide HEo).mono ?_
                    rintro en wJ ⟨rfl, hw⟩
                    replace hw := hw.symm
                    subst hw
                    clear HEo
                    go_wp2
                    go_ret
                    exact ⟨rfl, unhide hfinI⟩
                  · cases hz
                  · cases hm3
end Go.Proofs.Qxb6612546aFmt
