import Derived.Test.Qxb6612546aFmtRecT
import Derived.WalkMore
namespace Go.Proofs.Qxb6612546aFmt
open Go.RowKit

set_option maxRecDepth 100000 in
set_option maxHeartbeats 4000000 in
/-- Behind the fields: the record is handed out. -/
theorem rest48 (N : Nat) (s : ByteArray) (P : List UInt8) (ea fa : Addr) (fpr : Int) (nl : Nat) (raw rec fi fp : Value) (a0 : Option Addr) (n0 c0 : Nat) (w : World) (M : List (List (List UInt8) × Nat) × Bool) (pb rl T : Nat) (lv e8 : Value) (f : Nat → Value) (W : World)
    (hM : Cs.mach 4 [] [] 0 (nl + 1) (Cs.norm P) = M) (hT : T ≤ 8396800) (hE : Env w N ea fa) (hrows : ∀ k, OwnS N [raw, rec, fi, fp, .slice a0 n0 c0] k → N ≤ k) (hNw : N ≤ w.heap.size) (hfpr : 0 ≤ fpr ∧ fpr ≤ 1048576000)
    (hRE : RE N s ea fpr M w [raw, rec, fi, fp, .slice a0 n0 c0] (.slice a0 n0 c0) pb rl (nl + P.length) T e8 W) :
    Code.wp Tryf.prog (sub (Tryf.f48.body.getD .skip) [1, 4, 1, 1, 1, 1, 1, 1, 1, 1, 1, 1, 1, 1, 1, 1]) (Exit.noGoto (bodyPost Tryf.prog Tryf.f48 (RecPost N s P ea fpr nl raw rec fi fp (.slice a0 n0 c0) (.slice a0 n0 c0) w))) (fr2 N a0 n0 c0 lv e8 rl pb f) W := by
  conv => arg 2; dsimp only [Tryf.f48, Option.getD]
  simp only [sub, if_false, Nat.one_ne_zero]
  obtain ⟨P3, acc, nl3, raw3, rec3, fi3, fp3, qs, fs, hS, hTl, hcs⟩ := hRE
  obtain ⟨bts, hbts⟩ : ∃ b, fs.flatten ++ acc = b := ⟨_, rfl⟩
  obtain ⟨ix, hix⟩ : ∃ x, ends 0 fs = x := ⟨_, rfl⟩
  rw [hbts, hix] at hS
  have hixl : ix.length = fs.length := by rw [← hix, ends_length]
  have hfl : fs.length ≤ 8396801 := by omega
  have hixb : ix.length ≤ 8396801 := by omega
  have hbts' := hide hbts
  have hix' := hide hix
  have hixl' := hide hixl
  have hcs' := hide hcs
  have hM' := hide hM
  have hE' := hide hE
  obtain ⟨lk, ls, hls⟩ := hS.rlast
  obtain ⟨la, lc, hlv⟩ := own_shapeN hls
  simp only [Value.slice.injEq] at hlv
  obtain ⟨rfl, rfl, rfl⟩ := hlv
  obtain ⟨rA, rC, hrv⟩ := own_shapeN hS.rrec
  obtain ⟨fA, fC, hfv⟩ := own_shapeN hS.rfi
  subst hrv
  subst hfv
  obtain ⟨str, hstr⟩ : ∃ str, (⟨bts.toArray⟩ : ByteArray) = str := ⟨_, rfl⟩
  have hcv := conv_own hS.rrec
  rw [hstr] at hcv
  have hstr' := hide hstr
  have hstz : str.size = bts.length := by rw [← hstr]; simp [ByteArray.size]
  obtain ⟨i3, r3, n3, e3, bs3, pr3, lb3, lr3, off3, m3, xs3, hRx3⟩ := id hS.rd
  obtain ⟨k0, k1, k2, k3, k4, k5, k7, k8, k9, k10, k11, k12, k13, k14⟩ := hRx3.csv.cells
  have hls' := hide hls
  have hS' := hide hS
  clear hstr hS hls hRx3 hbts hix hixl hcs hM hE k0 k1 k3 k4 k5 k7 k8 k9 k10 k13 k14
  unfold fr2
  dsimp only
  go_upto_region 82 with fail
  go_cut [477] from 476 to 477 (fun b wx => wx = W ∧ ((e8 = .nilIface ∧ b = .bool true) ∨ ((∃ p, e8 = .iface 98 (.pointer (some p))) ∧ b = .bool false)))
  case first =>
    rcases unhide hcs' with ⟨rfl, -⟩ | ⟨-, p, rfl⟩
    · go_wp2
      go_meet
      case rel => exact ⟨rfl, .inl ⟨by first | rfl | trivial, rfl⟩⟩
    · go_wp2
      go_meet
      case rel => exact ⟨rfl, .inr ⟨⟨p, by first | rfl | trivial⟩, rfl⟩⟩
  case rest =>
    obtain ⟨hw, hb⟩ := hcut
    replace hw := hw.symm
    subst hw
    have hb' := hide hb
    clear hb
    go_upto_if 477 with fail
    go_cut [8] from 476 to 478 (fun v wx => wx = W ∧ v = e8)
    case first =>
      rcases unhide hb' with ⟨rfl, rfl⟩ | ⟨⟨p, rfl⟩, rfl⟩
      · go_wp2
        go_meet
        case rel => exact ⟨rfl, by first | rfl | trivial⟩
      · go_wp2
        go_meet
        case rel => exact ⟨rfl, by first | rfl | trivial⟩
    case rest =>
      obtain ⟨hw, hv⟩ := hcut
      replace hw := hw.symm
      subst hw
      subst hv
      clear hb'
      obtain ⟨j9, hj9, hj90, hj91, hj92⟩ := info_parts Tryf.info9
      have hb2 : j9.bytes * ix.length ≤ 281474976710656 := by rw [hj92]; omega
      have hmx : ix.length ≤ maxLen := by unfold maxLen; omega
      have hWs : N + 4 ≤ W.heap.size := (R0.bound (unhide hS').rd).2
      go_upto_if 493 with fail
      go_cut [1] from 486 to 499 (fun dv wx => ∃ (aD : Option Addr) (kD cD : Nat), dv = .slice aD kD cD ∧ ix.length ≤ cD ∧ ∃ ys, wx.ownsRow (N + 4) 9 1 (.slice aD ix.length cD) ix.length ys ∧ Dst w [raw, rec, fi, fp, .slice a0 n0 c0] wx N s P3 ea fpr nl3 raw3 (.slice rA bts.length rC) (.slice fA ix.length fC) fp3 (.slice a0 n0 c0) (.slice aD ix.length cD) bts ix fs.length rl)
      case first =>
        by_cases hcap : c0 < ix.length
        · have hcI : (c0 : Int) < ix.length := by omega
          go_wp2_with (at_make; refine wpList_make_full _ rfl _ _ 22 rfl (N + 4) 9 j9 (.string ⟨#[]⟩) 1 Tryf.underlying22 hj9 hj90 hj91 _ _ _ _ ix.length rfl rfl rfl rfl hb2 hmx hWs ?_)
          intro w5 hown5 hgrow5
          have hr5 : Hid (∃ (aD : Option Addr) (kD cD : Nat), Value.slice (some ⟨W.heap.size, 0, none⟩) ix.length ix.length = .slice aD kD cD ∧ ix.length ≤ cD ∧ ∃ ys, w5.ownsRow (N + 4) 9 1 (.slice aD ix.length cD) ix.length ys ∧ Dst w [raw, rec, fi, fp, .slice a0 n0 c0] w5 N s P3 ea fpr nl3 raw3 (.slice rA bts.length rC) (.slice fA ix.length fC) fp3 (.slice a0 n0 c0) (.slice aD ix.length cD) bts ix fs.length rl) :=
            ⟨_, _, _, rfl, Nat.le_refl _, _, hown5, (unhide hS').dst_new hgrow5 rfl (Nat.le_refl _) (hown5.lt _ rfl).2⟩
          clear hown5 hgrow5
          go_wp2
          go_meet
          case rel => exact unhide hr5
        · have hcI : ¬ ((c0 : Int) < ix.length) := by omega
          obtain ⟨ys, hys⟩ := own_reslice (L := ix.length) (unhide hls') (by omega)
          have hr5 : Hid (∃ (aD : Option Addr) (kD cD : Nat), Value.slice a0 0 c0 = .slice aD kD cD ∧ ix.length ≤ cD ∧ ∃ ys, W.ownsRow (N + 4) 9 1 (.slice aD ix.length cD) ix.length ys ∧ Dst w [raw, rec, fi, fp, .slice a0 n0 c0] W N s P3 ea fpr nl3 raw3 (.slice rA bts.length rC) (.slice fA ix.length fC) fp3 (.slice a0 n0 c0) (.slice aD ix.length cD) bts ix fs.length rl) :=
            ⟨a0, 0, c0, rfl, by omega, ys, hys, (unhide hS').dst (by cases a0 <;> rfl)⟩
          clear hys
          go_wp2
          go_meet
          case rel => exact unhide hr5
      case rest =>
        obtain ⟨aD, kD, cD, rfl, hcD, ys, hys, hD⟩ := hcut
        obtain ⟨i6, r6, n6, e6, bs6, pr6, lb6, lr6, off6, m6, xs6, hRx6⟩ := id hD.rd
        obtain ⟨_, _, m2, _, _, _, _, _, _, _, _, m12, _, _⟩ := hRx6.csv.cells
        have hD' := hide hD
        have hys' := hide hys
        have hcDI : (ix.length : Int) ≤ cD := by omega
        have hbtl : bts.length ≤ 8396801 := by
          have h1 := congrArg List.length (unhide hbts')
          rw [List.length_append] at h1
          omega
        have hysl : Hid (ys.length = fs.length) := by have := hys.1; have := unhide hixl'; rw [Hid]; omega
        clear hRx6 hD hys k2 k11 k12 hcv hS' hls' hb2 hmx hWs
        go_wp2
        go_loopg [21, 512] (ix.length + 1) (fun k pv iv wr => ∃ i : Nat, i + k = ix.length + 1 ∧ i ≤ ix.length ∧ iv = .int .i64 i ∧ pv = .int .i64 ((fs.take i).flatten).length ∧ wr.ownsRow (N + 4) 9 1 (.slice aD ix.length cD) ix.length (fillS fs ys i) ∧ Dst w [raw, rec, fi, fp, .slice a0 n0 c0] wr N s P3 ea fpr nl3 raw3 (.slice rA bts.length rC) (.slice fA ix.length fC) fp3 (.slice a0 n0 c0) (.slice aD ix.length cD) bts ix fs.length rl)
        case atStart => exact ⟨0, by omega, Nat.zero_le _, rfl, by simp, by simpa [fillS] using unhide hys', unhide hD'⟩
        case round =>
          obtain ⟨i, hik, hil, rfl, rfl, hown, hDr⟩ := hrel
          obtain ⟨pre, hpre⟩ : ∃ pre, ((fs.take i).flatten).length = pre := ⟨_, rfl⟩
          rw [hpre]
          have hpre' := hide hpre
          have hown' := hide hown
          have hDr' := hide hDr
          clear hpre hown hDr m2 m12 hD' hys'
          by_cases hlt : i < ix.length
          · obtain ⟨x, hx⟩ : ∃ x, fs[i]? = some x := ⟨fs[i]'(by have := unhide hixl'; omega), by simp⟩
            have hixi : ix[i]? = some (pre + x.length) := by
              have := ends_at fs 0 i x hx
              rw [unhide hix', unhide hpre', Nat.zero_add] at this
              exact this
            have hle : pre + x.length ≤ bts.length := by
              have h1 := take_flat fs i x hx
              have h2 := take_flat_le fs (i + 1)
              have h3 := congrArg List.length (unhide hbts')
              rw [List.length_append] at h3
              rw [unhide hpre'] at h1
              omega
            obtain ⟨gf, cf', hfs, _, _, _⟩ := own_shape (unhide hDr').rfi (by omega)
            simp only [Value.slice.injEq] at hfs
            obtain ⟨rfl, _, rfl⟩ := hfs
            obtain ⟨gd, cd', hds, hgd, _, _⟩ := own_shape (unhide hown') (by omega)
            simp only [Value.slice.injEq] at hds
            obtain ⟨rfl, _, rfl⟩ := hds
            have cfi : wr.cell? ⟨gf, i, none⟩ = some (.int .i64 (pre + x.length : Nat)) := by
              rw [(unhide hDr').rfi.cellAt i (by omega), List.getElem?_map, hixi]; rfl
            have cdi : ∃ u, wr.cell? ⟨gd, i, none⟩ = some u := by
              have hl := (unhide hown').1
              refine ⟨(fillS fs ys i)[i]'(by omega), ?_⟩
              rw [(unhide hown').cellAt i (by omega)]; simp
            obtain ⟨u, cdi⟩ := cdi
            have fdi := (unhide hown').frozenAt i
            have hstx : str.extract pre (pre + x.length) = ⟨x.toArray⟩ := by
              have := str_field fs acc i x hx
              rw [unhide hbts', unhide hstr', unhide hpre'] at this
              exact this
            have hst := (unhide hown').stored i (.string ⟨x.toArray⟩)
            rw [fillS_set fs ys i x hx (unhide hysl)] at hst
            have hst1 := hide hst.1
            have hDp := hide ((unhide hDr').put (g := gd) rfl i (.string ⟨x.toArray⟩))
            have hpre2 : Hid (((fs.take (i + 1)).flatten).length = pre + x.length) := by rw [Hid, take_flat fs i x hx, unhide hpre']
            have hltI : (i : Int) < ix.length := by omega
            have hle1 : ((pre + x.length : Nat) : Int) ≤ str.size := by omega
            have hle2 : pre ≤ pre + x.length := by omega
            have hsz : str.size ≤ 8396801 := by omega
            clear hst hx hixi
            go_wp2
            go_roundg (gk - 1)
            case measure => omega
            case rel => exact ⟨i + 1, by omega, by omega, by go_num, by rw [unhide hpre2]; simp, unhide hst1, unhide hDp⟩
          · obtain rfl : i = ix.length := by omega
            obtain ⟨i6, r6, n6, e6, bs6, pr6, lb6, lr6, off6, m6, xs6, hRx6⟩ := id (unhide hDr').rd
            obtain ⟨_, _, m2, _, _, _, _, _, _, _, _, m12, _, _⟩ := hRx6.csv.cells
            have mf2 := hRx6.csv.frozen 2
            clear hRx6
            obtain ⟨v4, e4⟩ := ((unhide hE').fr (unhide hDr').fr hrows hNw).glob.e4
            have hbadp : Hid (∀ (w5 : World) (p : Addr), M = ([], true) → Fr (OwnS N [raw, rec, fi, fp, .slice a0 n0 c0]) w w5 → (∃ fpr1 nl1 off1 raw1 rec1 fi1 fp1 last1, Csv w5 N fpr1 nl1 off1 raw1 rec1 fi1 fp1 last1) → RecPost N s P ea fpr nl raw rec fi fp (.slice a0 n0 c0) (.slice a0 n0 c0) w (.returned (.tuple #[.slice aD ix.length cD, .iface 98 (.pointer (some p))])) w5) :=
              fun w5 p hbm hfr hcv => ⟨_, _, _, _, _, rfl, rfl, hfr, hcv, .inr (.inl ⟨(unhide hM').trans hbm, p, rfl⟩)⟩
            have hgood : Hid (acc = [] → Dst w [raw, rec, fi, fp, .slice a0 n0 c0] wr N s P3 ea fpr nl3 raw3 (.slice rA bts.length rC) (.slice fA ix.length fC) fp3 (.slice a0 n0 c0) (.slice aD ix.length cD) fs.flatten (ends 0 fs) fs.length rl) := by
              rintro rfl
              have h1 := unhide hbts'
              rw [List.append_nil] at h1
              rw [h1, unhide hix']
              exact unhide hDr'
            have hixn := unhide hixl'
            have hysn := unhide hysl
            have hixn' := hide hixn
            have hysn' := hide hysn
            clear hixn hysn
            by_cases hf0 : fpr = 0
            · subst hf0
              rcases unhide hcs' with ⟨rfl, hacc, hpos, hB, hMg⟩ | ⟨hbm, p, rfl⟩
              · have hMg' := hide hMg
                clear hMg
                go_wp2
                go_ret2
                exact ((unhide hgood hacc).setfpr _).post (unhide hixn') (Fr.own (unhide hown') (fr_setCell _ _ _ _) (fun k hk e => by have := ((unhide hown').lt k hk).1; omega)) (unhide hysn') hpos hB ((unhide hM').trans (unhide hMg')) (.inl ⟨rfl, by rw [unhide hixn'], rfl⟩)
              · go_wp2
                go_ret2
                exact unhide hbadp _ p hbm ((unhide hDr').setfpr _).fr ((unhide hDr').setfpr _).rd.csv
            · have hfp : (0 : Int) < fpr := by omega
              rcases unhide hcs' with ⟨rfl, hacc, hpos, hB, hMg⟩ | ⟨hbm, p, rfl⟩
              · have hMg' := hide hMg
                clear hMg
                by_cases hfe : (ix.length : Int) = fpr
                · have hfe' := hide hfe
                  have hfb : (((ix.length : Int) == fpr)) = true := by simp [hfe]
                  clear hfe
                  go_wp2
                  go_ret2
                  exact (unhide hgood hacc).post (unhide hixn') (unhide hown') (unhide hysn') hpos hB ((unhide hM').trans (unhide hMg')) (.inr ⟨hf0, rfl, .inl ⟨by rw [← unhide hixn']; exact unhide hfe', rfl⟩⟩)
                · have hfb : (((ix.length : Int) == fpr)) = false := by simp [hfe]
                  have hfe' := hide hfe
                  go_wp2
                  go_ret2
                  refine Dst.post (ys := ys) ((unhide hgood hacc).below ?_) (unhide hixn') (Fr.own (unhide hown') (Fr.of_below (S := fun _ => False) ((Below.refl _ wr).alloc (Nat.le_refl _) _)) (fun _ _ e => e)) (unhide hysn') hpos hB ((unhide hM').trans (unhide hMg')) (.inr ⟨hf0, rfl, .inr ⟨by rw [← unhide hixn']; exact unhide hfe', _, rfl⟩⟩)
                  exact (Below.refl _ wr).alloc (Nat.le_refl _) _
              · have hbm' := hide hbm
                clear hbm
                by_cases hfe : (ix.length : Int) = fpr
                · have hfb : (((ix.length : Int) == fpr)) = true := by simp [hfe]
                  clear hfe
                  go_wp2
                  all_goals
                    go_ret2
                    exact unhide hbadp _ p (unhide hbm') (unhide hDr').fr (unhide hDr').rd.csv
                · have hfb : (((ix.length : Int) == fpr)) = false := by simp [hfe]
                  go_wp2
                  all_goals
                    go_ret2
                    exact unhide hbadp _ p (unhide hbm') (unhide hDr').fr (unhide hDr').rd.csv
end Go.Proofs.Qxb6612546aFmt
