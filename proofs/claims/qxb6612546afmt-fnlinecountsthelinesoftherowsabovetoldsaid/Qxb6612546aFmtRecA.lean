import Derived.Test.Qxb6612546aFmtRecV
import Derived.Test.Qxb6612546aFmtRecY
import Derived.Test.Qxb6612546aFmtRecZ
namespace Go.Proofs.Qxb6612546aFmt
open Go.RowKit

theorem to_fr3 {c : Code} {Q : Exit → Act → World → Prop} {w : World} {a : Act} {N : Nat} {a0 : Option Addr} {n0 c0 : Nat} {rl : Int} {pb qb : Nat} (lv e8 : Value) (h : a = fr3 N a0 n0 c0 lv e8 rl pb qb (fun i => nthV a.tmps.toList i)) (hw : ∀ f, Code.wp Tryf.prog c Q (fr3 N a0 n0 c0 lv e8 rl pb qb f) w) : Code.wp Tryf.prog c Q a w := by
  rw [h]; exact hw _

theorem csv_grown0 {w w2 : World} {N m : Nat} {fpr nl off : Int} {raw rec fi fp last v : Value} (h : Csv w N fpr nl off raw rec fi fp last) (hg : (w.drewN m).grownBy w2 v.ownBlock) (hv : ∀ g, v.ownBlock = some g → N + 4 ≤ g) : Csv w2 N fpr nl off raw rec fi fp last := by
  have hlt := (Array.getElem?_eq_some_iff.1 h.block).1
  refine ⟨?_⟩
  rw [hg.block (N + 3) hlt (fun e => by have := hv (N + 3) e.symm; omega)]
  exact h.block

theorem fr_grown0 {w w' : World} {r : Option Nat} {n : Nat} (h : (w.drewN n).grownBy w' r) : Fr (fun k => r = some k) w w' :=
  ⟨h.os, h.tape, h.output, h.size, fun k hk hs => h.block k hk (fun e => hs e.symm)⟩

theorem own_or0 {w : World} {v v' : Value} {n : Nat} (hwh : v'.ownBlock = v.ownBlock ∨ v'.ownBlock = some ((w.drewN n).heap.size)) : v'.ownBlock = v.ownBlock ∨ ∃ g, v'.ownBlock = some g ∧ w.heap.size ≤ g := by
  rcases hwh with h | h
  · exact .inl h
  · exact .inr ⟨_, h, Nat.le_refl _⟩

namespace Cs
theorem quot_hit {pre post acc R : List UInt8} {fs : List (List UInt8)} {rl nl : Nat} (h34 : (34 : UInt8) ∉ pre) (h10 : (10 : UInt8) ∉ pre) : mach 2 acc fs rl nl ((pre ++ 34 :: post) ++ R) = mach 3 (acc ++ pre) fs rl nl (post ++ R) := by
  rw [List.append_assoc, mach2_run pre acc fs rl nl _ (fun c hc e => h34 (e ▸ hc)), List.cons_append, mach2_quote]
  have h0 : lfs pre = 0 := by unfold lfs; exact List.count_eq_zero.2 h10
  rw [h0, Nat.add_zero]
end Cs

set_option maxRecDepth 100000 in
set_option maxHeartbeats 4000000 in
/-- Inside a quoted field: a quote on this line. -/
theorem quotA48 (K3 K2 K : Act → World → Prop) (Post : Ending → World → Prop) (N : Nat) (s : ByteArray) (ea fa : Addr) (fpr : Int) (M : List (List (List UInt8) × Nat) × Bool) (w : World) (rows0 : List Value) (a0 : Option Addr) (n0 c0 pb qb rl B T gk : Nat) (wr : World) (f : Nat → Value)
    (P3 cur acc pre post : List UInt8) (nl3 : Nat) (raw3 rec3 fi3 fp3 : Value) (g3 o3 c3 : Nat) (fs : List (List UInt8)) (hLA3 : LineAt wr N raw3 g3 o3 c3 cur) (hok3 : Cs.LnOK cur P3) (hcur : cur = pre ++ 34 :: post) (hpre : (34 : UInt8) ∉ pre) (hf18 : f 18 = .int .i64 pre.length)
    (hS3 : St w rows0 wr N s P3 ea fpr nl3 raw3 rec3 fi3 fp3 (.slice a0 n0 c0) pb [qb] (fs.flatten ++ acc) (ends 0 fs) fs.length rl) (hM3 : Cs.mach 2 acc fs rl nl3 (cur ++ Cs.norm P3) = M) (hk3 : cur.length + P3.length < gk) (hB3 : nl3 + P3.length ≤ B) (hT3 : fs.length + fs.flatten.length + acc.length + cur.length + P3.length ≤ T) (hTb : T ≤ 8396800)
    (hEw : Env w N ea fa) (hrows : ∀ k, OwnS N rows0 k → N ≤ k) (hNw : N ≤ w.heap.size)
    (hr : ∀ a w' k', k' < gk → (∃ lv f, a = fr3 N a0 n0 c0 lv .nilIface rl pb qb f ∧ R3 N s ea fpr M w rows0 (.slice a0 n0 c0) pb qb rl B T k' lv w') → K3 a w')
    (hc : ∀ a w' k', k' < gk → (∃ lv f, a = fr2 N a0 n0 c0 lv .nilIface rl pb f ∧ R2 N s ea fpr M w rows0 (.slice a0 n0 c0) pb rl B T k' lv w') → K2 a w')
    (hb : ∀ a w', (∃ lv e8 f, a = fr2 N a0 n0 c0 lv e8 rl pb f ∧ RE N s ea fpr M w rows0 (.slice a0 n0 c0) pb rl B T e8 w') → K a w') :
    Code.wp Tryf.prog (sub (Tryf.f48.body.getD .skip) [1, 4, 1, 1, 1, 1, 1, 1, 1, 1, 1, 1, 1, 1, 1, 0, 2, 3, 2, 1, 1, 1, 1, 1, 1, 2, 3, 2, 1, 1, 0]) (Exit.inBlock 5 (Exit.then K3 (Exit.inBlock 4 (Exit.inBlock 3 (Exit.then K2 (Exit.inBlock 2 (Exit.then K (Exit.noGoto (bodyPost Tryf.prog Tryf.f48 Post)))))))))
      (fr3 N a0 n0 c0 (.slice (some ⟨g3, o3, none⟩) cur.length c3) .nilIface rl pb qb f) wr := by
  conv => arg 2; dsimp only [Tryf.f48, Option.getD]
  simp only [sub, Nat.reduceEqDiff, if_true, if_false, Nat.one_ne_zero]
  have hr' := hide hr
  have hb' := hide hb
  have hc' := hide hc
  clear hr hb hc
  have hEw' := hide hEw
  obtain ⟨h10, hokp⟩ := Cs.lnok_tail (by decide) (hcur ▸ hok3)
  have hMp : Hid (Cs.mach 3 (acc ++ pre) fs rl nl3 (post ++ Cs.norm P3) = M) := by rw [Hid, ← hM3, hcur]; exact (Cs.quot_hit hpre h10).symm
  have hlen : cur.length = pre.length + 1 + post.length := by rw [hcur]; simp; omega
  have hdrp : cur.drop (pre.length + 1) = post := by rw [hcur]; simp
  have htk : cur.take pre.length = pre := by rw [hcur]; simp
  obtain ⟨bts, hbts⟩ : ∃ b, fs.flatten ++ acc = b := ⟨_, rfl⟩
  obtain ⟨ix, hix⟩ : ∃ x, ends 0 fs = x := ⟨_, rfl⟩
  rw [hbts, hix] at hS3
  have hbl : bts.length = fs.flatten.length + acc.length := by rw [← hbts, List.length_append]
  have hT3b : fs.length + bts.length + pre.length + 1 + post.length + P3.length ≤ T := by omega
  obtain ⟨rA, rC, hrec3⟩ := own_shape' hS3.rrec
  subst hrec3
  obtain ⟨i3, r3, n3, e3, bs3, pr3, lb3, lr3, off3, m3, xs3, hRx3⟩ := id hS3.rd
  obtain ⟨_, _, _, _, _, _, _, _, _, _, k11, _, _, _⟩ := hRx3.csv.cells
  have hC3' := hide hRx3.csv
  have hr3l : Hid (∀ g, (Value.slice rA bts.length rC).ownBlock = some g → N + 4 ≤ g) := fun g hg => (hS3.rrec.lt g hg).1
  have hLAp : LineAt wr N raw3 g3 o3 c3 pre := by rw [← htk]; exact hLA3.shorter _ (by omega)
  have hnw := hide (bytes_news hLAp.bytes)
  have hcap := hLA3.cap
  obtain ⟨i5, hi5, hz50, hz51, hz52⟩ := info_parts Tryf.info5
  have hmx : bts.length + pre.length ≤ maxLen := by unfold maxLen; omega
  have hbase3 : N + 4 ≤ wr.heap.size := (R0.bound hS3.rd).2
  have hS3' := hide hS3
  have hLA3' := hide hLA3
  have hokp' := hide hokp
  have hlen' := hide hlen
  have hdrp' := hide hdrp
  have hbts' := hide hbts
  have hix' := hide hix
  have hbl' := hide hbl
  have hplI : (pre.length : Int) ≤ c3 := by omega
  have hcl : cur.length ≤ 8396800 := by omega
  have hk3' := hide hk3
  have hT3' := hide hT3
  clear hEw hokp hM3 hcur hlen hdrp htk hbts hix hbl hRx3 hLAp hS3 hLA3 hok3 hpre h10 hT3
  unfold fr3
  go_wp2
  go_cut [] from 262 to 272 (fun wx => ∃ rec', St w rows0 wx N s P3 ea fpr nl3 raw3 rec' fi3 fp3 (.slice a0 n0 c0) pb [qb] (bts ++ pre) ix fs.length rl ∧ LineAt wx N raw3 g3 o3 c3 cur)
  case first =>
    go_region_law (refine step_append_where rfl (.tmp 266) (.tmp 269) 29 rfl (N + 4) 5 i5 (.int .u8 0) 1 1 Tryf.underlying29 hi5 hz50 hz51 hz52 rfl (by decide) (.slice rA bts.length rC) bts.length (bts.map byteV) (by simp [Act.eval]) (by exact (unhide hS3').rrec) ⟨g3, o3, none⟩ pre.length c3 (pre.map byteV) (by simp [Act.eval]) (by simp) (by exact unhide hnw) (byteV_one pre) hmx (by omega) (by exact hbase3) ?_; intro v5 w5 hown5 hgrow5 _ hwh5; obtain ⟨xA, xC, rfl⟩ := own_shape' hown5; have hC5 := csv_grown0 (unhide hC3') hgrow5 (unhide hr3l); have m11 := hC5.cells.2.2.2.2.2.2.2.2.2.2.1; have mf11 := hC5.frozen 11; clear hC5)
    all_goals
      go_wp2
      go_meet
      case rel =>
        refine ⟨_, (unhide hS3').app_rec pre (by simpa using hown5) (fr_grown0 hgrow5) (own_or0 hwh5), ?_⟩
        exact (unhide hS3').line_keep (i := 1) rfl (by omega) ((fr_grown0 hgrow5).mono (fun _ _ h => .inr h) |>.trans (fr_setCell _ _ _ _) (fun _ _ h => .inl h)) (unhide hLA3')
  case rest =>
    obtain ⟨rec5, hS5, hLA5⟩ := hcut
    obtain ⟨oP, hoP, hLAP⟩ := hLA5.drop (pre.length + 1) (by have := unhide hlen'; omega)
    rw [unhide hdrp'] at hLAP
    obtain ⟨pl5, pc5, hps5, _⟩ := hS5.pos
    have p1 : wc.cell? ⟨pb, 1, none⟩ = some (.int .i64 pc5) := by rw [cell_of_row wc _ _ _ _ _ hps5]; rfl
    have pf1 : wc.frozen? ⟨pb, 1, none⟩ = false := frozen_of_row wc _ _ _ _ hps5
    have hS5' := hide hS5
    have hLAP' := hide hLAP
    have hsubl : cur.length - (pre.length + 1) = post.length := by have := unhide hlen'; omega
    have hcI : ((pre.length + 1 : Nat) : Int) ≤ cur.length := by have := unhide hlen'; omega
    have hS6 := hide (fun x => (unhide hS5').setpos 1 x (.inl rfl))
    have hL6 := hide (fun x => (unhide hS5').line_keep (i := 5) rfl (by omega) ((fr_setCell wc pb 1 (.int .i64 x)).mono (fun k _ e => .inr (by rw [e]; rfl))) (unhide hLAP'))
    have HN := hide (fun x => nextRune_any g3 oP (c3 - (pre.length + 1)) post.length post (wc.setCell ⟨pb, 1, none⟩ (.int .i64 x)) rfl (unhide hL6 x).bytes ((unhide hEw').fr (unhide hS6 x).fr hrows hNw).tabs)
    clear hS5 hLA5 hLAP hps5 k11 hC3' hr3l hnw hmx hbase3 hS3' hLA3' hplI
    go_wp2_with fail
    refine (unhide HN _).mono ?_
    rintro en w6 ⟨rn, rfl, hbel, hrn0, hrn1⟩
    have hS7 := hide ((unhide hS6 _).below hbel)
    have hL7 := hide ((unhide hL6 _).below hbel)
    clear hbel HN hS6 hL6 p1 pf1 hS5' hLAP'
    obtain ⟨btx, hbtx⟩ : ∃ b, bts ++ pre = b := ⟨_, rfl⟩
    rw [hbtx] at hS7
    have hbxl : btx.length = bts.length + pre.length := by rw [← hbtx, List.length_append]
    have hbtx' := hide hbtx
    have hbxb : btx.length ≤ 8396800 := by omega
    have hbxl' := hide hbxl
    clear hbtx hbxl
    obtain ⟨sA, sC, hrec5⟩ := own_shape' (unhide hS7).rrec
    subst hrec5
    obtain ⟨i7, r7, n7, e7, bs7, pr7, lb7, lr7, off7, m7, xs7, hRx7⟩ := id (unhide hS7).rd
    obtain ⟨k0, _, _, k3, _, _, _, k8, _, _, k11, _, _, _⟩ := hRx7.csv.cells
    have f11 := hRx7.csv.frozen 11
    have hC7 := hide hRx7.csv
    clear hRx7
    obtain ⟨pl7, pc7, hps7, _⟩ := (unhide hS7).pos
    have p1 : w6.cell? ⟨pb, 1, none⟩ = some (.int .i64 pc7) := by rw [cell_of_row w6 _ _ _ _ _ hps7]; rfl
    have hcap7 := (unhide hL7).cap
    have hbase7 : N + 4 ≤ w6.heap.size := (R0.bound (unhide hS7).rd).2
    have hrn0' := hide hrn0
    have hrn1' := hide hrn1
    have hps7' := hide hps7
    clear hrn0 hrn1 hps7
    cases hpo : post with
    | nil =>
      have hrn : (rn : Int) = 65533 := by rw [unhide hrn0' hpo]; rfl
      have hP0 : P3 = [] := by
        rcases unhide hokp' with ⟨_, h⟩ | ⟨a, h, _⟩
        · exact h
        · rw [hpo] at h; simp at h
      have hMz : Hid (M = ((fs ++ [acc ++ pre], rl) :: (Cs.mach 4 [] [] 0 (nl3 + 1) (Cs.norm P3)).1, (Cs.mach 4 [] [] 0 (nl3 + 1) (Cs.norm P3)).2)) := by
        rw [Hid, ← unhide hMp, hpo, hP0]
        exact Cs.mach3_nil _ _ _ _
      rw [← hpo]
      have hnl : (nlOf post : Int) = post.length := by rw [hpo]; rfl
      have HNL := hide (lengthNL_any (some ⟨g3, oP, none⟩) (c3 - (pre.length + 1)) post.length post w6 rfl (unhide hL7).bytes (by omega))
      clear hpo hP0
      go_wp2_with fail
      refine (unhide HNL).mono ?_
      rintro en w9 ⟨rfl, hw⟩
      replace hw := hw.symm
      subst hw
      clear HNL
      go_upto_if 354 with fail
      refine wp_cond_true rfl ?_
      refine to_fr3 (.slice (some ⟨g3, oP, none⟩) post.length (c3 - (pre.length + 1))) .nilIface (by rfl) (fun f' => ?_)
      exact quotZ48 K3 K2 K Post N s ea fpr M w rows0 a0 n0 c0 pb qb rl B T w6 f' P3 post (acc ++ pre) btx nl3 raw3 (.slice sA btx.length sC) fi3 fp3 g3 oP (c3 - (pre.length + 1)) fs (unhide hL7) (by rw [unhide hix']; exact unhide hS7) (by rw [← unhide hbtx', ← unhide hbts']; simp) (by have := unhide hbxl'; omega) hTb hB3 (unhide hMz) (unhide hb')
    | cons b t =>
      obtain ⟨hb1, hb2⟩ := unhide hrn1' b t hpo
      by_cases h34 : b = 34
      · have hrn : rn = 34 := by rw [hb1 (by rw [h34]; decide), h34]; rfl
        have hrnI : (rn : Int) = 34 := by omega
        have hMq : Hid (Cs.mach 2 (acc ++ pre ++ [34]) fs rl nl3 (t ++ Cs.norm P3) = M) := by
          rw [Hid, ← unhide hMp, hpo, h34, List.cons_append, Cs.mach3_quote]
        rw [← hpo]
        have hpl : post.length = t.length + 1 := by rw [hpo]; rfl
        have hokt : Hid (Cs.LnOK t P3) := by
          have := unhide hokp'
          rw [hpo, h34] at this
          exact (Cs.lnok_tail (pre := []) (by decide) this).2
        obtain ⟨oT, hoT, hLT⟩ := (unhide hL7).drop 1 (by omega)
        have hdt : post.drop 1 = t := by rw [hpo]; rfl
        rw [hdt] at hLT
        have hLT' := hide hLT
        have h1I : (1 : Int) ≤ post.length := by omega
        have hsub1 : post.length - 1 = t.length := by omega
        have hmx7 : btx.length + 1 ≤ maxLen := by unfold maxLen; omega
        have hpl' := hide hpl
        clear hpo hb1 hb2 h34 hrn hdt hLT hpl
        go_wp2_with (at_builtin; refine wpList_append_where _ rfl _ _ 29 rfl (N + 4) 5 i5 (.int .u8 0) 1 1 Tryf.underlying29 hi5 hz50 hz51 hz52 rfl (by decide) _ btx.length _ rfl ((unhide hS7).rrec.alloc _) ⟨w6.heap.size, 0, none⟩ 1 1 [byteV 34] rfl rfl (cell_one_new _ _ _) (by simp [Value.oneCell', byteV]) hmx7 (by omega) (by simp; omega) ?_)
        intro v8 w8 hown8 hgrow8 _ hwh8
        replace hown8 : w8.ownsRow (N + 4) 5 1 v8 (btx ++ [34]).length ((btx ++ [34]).map byteV) := by simpa using hown8
        obtain ⟨vA, vC, rfl⟩ := own_shape' hown8
        have hS8 := hide ((unhide hS7).app_rec [34] hown8 (fr_grownA (n := 0) (by exact hgrow8)) (by rcases hwh8 with h | h; exact .inl h; exact .inr ⟨_, h, by omega⟩))
        have hF8 : Hid (Fr (fun k => k = N + 3 ∨ (Value.slice sA btx.length sC).ownBlock = some k) w6 (w8.setCell ⟨N + 3, 11, none⟩ (.slice vA (btx ++ [34]).length vC))) := ((fr_grownA (n := 0) (by exact hgrow8)).mono fun _ _ h => .inr h).trans (fr_setCell _ _ _ _) (fun _ _ h => .inl h)
        have hL8 := hide ((unhide hS7).line_keep (i := 1) rfl (by omega) (unhide hF8) (unhide hLT'))
        have hC8 := csv_grown (m := 0) (unhide hC7) (by exact hgrow8) (fun g hg => ((unhide hS7).rrec.lt g hg).1)
        have m11 := hC8.cells.2.2.2.2.2.2.2.2.2.2.1
        have mf11 := hC8.frozen 11
        have hap : (btx ++ [34]).length = btx.length + 1 := by simp
        rw [hap] at hS8 hL8 ⊢
        obtain ⟨pl8, pc8, hps8, _⟩ := (unhide hS8).pos
        have hps8' := hide hps8
        clear hown8 hgrow8 hwh8 hC8 k0 k3 k8 k11 f11 hF8 p1 hps7' hps8 hap
        go_upto_region 56 with fail
        generalize w8.setCell ⟨N + 3, 11, none⟩ (.slice vA (btx.length + 1) vC) = W8 at hS8 hL8 hps8' ⊢
        have p81 : W8.cell? ⟨pb, 1, none⟩ = some (.int .i64 pc8) := by rw [cell_of_row W8 _ _ _ _ _ (unhide hps8')]; rfl
        have pf81 : W8.frozen? ⟨pb, 1, none⟩ = false := frozen_of_row W8 _ _ _ _ (unhide hps8')
        clear m11 mf11 hC7 hL7 hS7
        go_wp2
        refine unhide hr' _ _ (t.length + P3.length + 1) (by have := unhide hlen'; have := unhide hk3'; have := unhide hpl'; omega) (start_fr3 (.slice (some ⟨g3, oT, none⟩) t.length (c3 - (pre.length + 1) - 1)) (by rfl) ?_)
        refine ⟨P3, t, acc ++ pre ++ [34], nl3, raw3, .slice vA (btx.length + 1) vC, fi3, fp3, g3, oT, _, fs, rfl, (unhide hS8).line_keep (i := 5) rfl (by omega) ((fr_setCell _ _ _ _).mono (fun k _ e => .inr (by rw [e]; rfl))) (unhide hL8), unhide hokt, ?_, unhide hMq, by omega, .inl hB3, ?_⟩
        · rw [show fs.flatten ++ (acc ++ pre ++ [34]) = btx ++ [34] by rw [← unhide hbtx', ← unhide hbts']; simp, unhide hix']
          exact (unhide hS8).setpos 1 _ (.inl rfl)
        · have := unhide hbl'; have := unhide hpl'
          simp only [List.length_append, List.length_singleton]
          omega
      · have hrn34 : ¬ ((rn : Int) = 34) := by
          intro e
          by_cases hlt : b.toNat < 128
          · exact h34 (byte_eq b 34 (by rw [← hb1 hlt]; exact e))
          · have := hb2 (by omega); omega
        by_cases h44 : b = 44
        · have hrn : (rn : Int) = 44 := by rw [hb1 (by rw [h44]; decide), h44]; rfl
          have hMy : Hid (Cs.mach 0 [] (fs ++ [acc ++ pre]) rl nl3 (t ++ Cs.norm P3) = M) := by
            rw [Hid, ← unhide hMp, hpo, h44, List.cons_append, Cs.mach3_comma]
          have hokt : Hid (Cs.LnOK t P3) := by
            have := unhide hokp'
            rw [hpo, h44] at this
            exact (Cs.lnok_tail (pre := []) (by decide) this).2
          have hpo44 : Hid (post = 44 :: t) := by rw [Hid, hpo, h44]
          have hpl : Hid (post.length = t.length + 1) := by rw [Hid, hpo]; rfl
          rw [← hpo]
          clear hpo hb1 hb2 h34 h44
          go_upto_if 315 with fail
          refine wp_cond_true rfl ?_
          refine to_fr3 (.slice (some ⟨g3, oP, none⟩) post.length (c3 - (pre.length + 1))) .nilIface (by rfl) (fun f' => ?_)
          exact quotY48 K3 K2 K Post N s ea fpr M w rows0 a0 n0 c0 pb qb rl B T gk w6 f' P3 post (acc ++ pre) btx nl3 raw3 (.slice sA btx.length sC) fi3 fp3 g3 oP (c3 - (pre.length + 1)) fs (unhide hL7) (by rw [unhide hix']; exact unhide hS7) (by rw [← unhide hbtx', ← unhide hbts']; simp) (by have := unhide hbxl'; omega) hTb hB3 t (unhide hpo44) (unhide hokt) (unhide hMy) (by have := unhide hlen'; have := unhide hk3'; have := unhide hpl; omega) (unhide hc')
        · have hrn44 : ¬ ((rn : Int) = 44) := by
            intro e
            by_cases hlt : b.toNat < 128
            · exact h44 (byte_eq b 44 (by rw [← hb1 hlt]; exact e))
            · have := hb2 (by omega); omega
          by_cases h10 : b = 10
          · have ht : t = [] := by
              rcases unhide hokp' with ⟨h, _⟩ | ⟨a, h, h2⟩
              · rw [hpo, h10] at h; simp at h
              · rw [hpo, h10] at h
                cases a with
                | nil => simpa using h
                | cons y z => simp at h; exact absurd (by rw [← h.1]; simp) h2
            have hMz : Hid (M = ((fs ++ [acc ++ pre], rl) :: (Cs.mach 4 [] [] 0 (nl3 + 1) (Cs.norm P3)).1, (Cs.mach 4 [] [] 0 (nl3 + 1) (Cs.norm P3)).2)) := by
              rw [Hid, ← unhide hMp, hpo, h10, ht]
              exact Cs.mach3_lf _ _ _ _ _
            have hnl : (nlOf post : Int) = post.length := by rw [hpo, h10, ht]; rfl
            rw [← hpo]
            have HNL := hide (lengthNL_any (some ⟨g3, oP, none⟩) (c3 - (pre.length + 1)) post.length post w6 rfl (unhide hL7).bytes (by omega))
            clear hpo hb1 hb2 h34 h44 h10 ht
            go_wp2_with fail
            refine (unhide HNL).mono ?_
            rintro en w9 ⟨rfl, hw⟩
            replace hw := hw.symm
            subst hw
            clear HNL
            go_upto_if 354 with fail
            refine wp_cond_true rfl ?_
            refine to_fr3 (.slice (some ⟨g3, oP, none⟩) post.length (c3 - (pre.length + 1))) .nilIface (by rfl) (fun f' => ?_)
            exact quotZ48 K3 K2 K Post N s ea fpr M w rows0 a0 n0 c0 pb qb rl B T w6 f' P3 post (acc ++ pre) btx nl3 raw3 (.slice sA btx.length sC) fi3 fp3 g3 oP (c3 - (pre.length + 1)) fs (unhide hL7) (by rw [unhide hix']; exact unhide hS7) (by rw [← unhide hbtx', ← unhide hbts']; simp) (by have := unhide hbxl'; omega) hTb hB3 (unhide hMz) (unhide hb')
          · have hbad : Hid (M = ([], true)) := by
              rw [Hid, ← unhide hMp, hpo, List.cons_append, Cs.mach3_byte _ _ _ _ _ _ h44 h10 h34]
            have hnl : ¬ ((nlOf post : Int) = post.length) := by
              intro e
              rcases (nlOf_eq (unhide hokp')).1 (by omega) with h | h
              · rw [hpo] at h; simp at h
              · rw [hpo] at h; simp at h; exact h10 h.1
            have HNL := hide (lengthNL_any (some ⟨g3, oP, none⟩) (c3 - (pre.length + 1)) post.length post w6 rfl (unhide hL7).bytes (by omega))
            obtain ⟨v3, e3'⟩ := ((unhide hEw').fr (unhide hS7).fr hrows hNw).glob.e3
            have hSal := hide (fun w2 (hb : Below w6.heap.size w6 w2) => (unhide hS7).below hb)
            rw [← hpo]
            clear hpo hb1 hb2 h34 h44 h10
            go_wp2_with fail
            refine (unhide HNL).mono ?_
            rintro en w9 ⟨rfl, hw⟩
            replace hw := hw.symm
            subst hw
            clear HNL
            go_wp2
            go_region
            all_goals
              go_wp2
              refine unhide hb' _ _ (out_fr2 (.slice (some ⟨g3, oP, none⟩) post.length (c3 - (pre.length + 1))) (.iface 98 (.pointer (some ⟨w6.heap.size, 0, none⟩))) (by rfl) ?_)
              refine ⟨P3, acc ++ pre, nl3, raw3, .slice sA btx.length sC, fi3, fp3, [qb], fs, ?_, ?_, .inr ⟨unhide hbad, _, rfl⟩⟩
              · rw [unhide hix', ← List.append_assoc, unhide hbts', unhide hbtx']
                exact unhide hSal _ (by first | exact ((Below.refl _ w6).alloc (Nat.le_refl _) _) | exact bdrew ((Below.refl _ w6).alloc (Nat.le_refl _) _) | exact ((Below.refl _ w6).alloc (Nat.le_refl _) _).drew)
              · have := unhide hbl'
                rw [List.length_append]; omega
end Go.Proofs.Qxb6612546aFmt
