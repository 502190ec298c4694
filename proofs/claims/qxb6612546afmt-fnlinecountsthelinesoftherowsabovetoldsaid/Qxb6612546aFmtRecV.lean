import Derived.Test.Qxb6612546aFmtRec1
import Derived.Test.Qxb6612546aFmtLine2
namespace Go.Proofs.Qxb6612546aFmt
open Go.RowKit

theorem start_fr3 {a : Act} {N : Nat} {a0 : Option Addr} {n0 c0 : Nat} {rl : Int} {pb qb : Nat} {e8 : Value} {R : Value → Prop} (lv : Value) (h : a = fr3 N a0 n0 c0 lv e8 rl pb qb (fun i => nthV a.tmps.toList i)) (hR : R lv) : ∃ lv f, a = fr3 N a0 n0 c0 lv e8 rl pb qb f ∧ R lv := ⟨lv, _, h, hR⟩

namespace Cs
theorem quot_line {cur acc P : List UInt8} {fs : List (List UInt8)} {rl nl : Nat} (h34 : (34 : UInt8) ∉ cur) (hok : LnOK cur P) (hP : P ≠ []) : mach 2 acc fs rl nl (cur ++ norm P) = mach 2 (acc ++ cur) fs rl (nl + 1) (norm P) := by
  rw [mach2_run cur acc fs rl nl _ (fun c hc e => h34 (e ▸ hc))]
  rcases hok with ⟨_, h⟩ | ⟨a, rfl, h⟩
  · exact absurd h hP
  · have : lfs (a ++ [10]) = 1 := by
      rw [lfs_append, lfs_cons]
      have h0 : lfs a = 0 := by unfold lfs; exact List.count_eq_zero.2 h
      rw [h0]; rfl
    rw [this]

theorem quot_end {cur acc : List UInt8} {fs : List (List UInt8)} {rl nl : Nat} (h34 : (34 : UInt8) ∉ cur) : mach 2 acc fs rl nl (cur ++ norm []) = ([], true) := by
  rw [mach2_run cur acc fs rl nl _ (fun c hc e => h34 (e ▸ hc))]
  exact mach2_nil _ _ _ _
end Cs

set_option maxRecDepth 100000 in
set_option maxHeartbeats 4000000 in
/-- Inside a quoted field: no quote on the rest of the line. -/
theorem quotB48 (K3 K2 K : Act → World → Prop) (Post : Ending → World → Prop) (N : Nat) (s : ByteArray) (ea fa : Addr) (fpr : Int) (M : List (List (List UInt8) × Nat) × Bool) (w : World) (rows0 : List Value) (a0 : Option Addr) (n0 c0 pb qb rl B T gk : Nat) (wr : World) (f : Nat → Value)
    (P3 cur acc : List UInt8) (nl3 : Nat) (raw3 rec3 fi3 fp3 : Value) (g3 o3 c3 : Nat) (fs : List (List UInt8)) (hLA3 : LineAt wr N raw3 g3 o3 c3 cur) (hok3 : Cs.LnOK cur P3)
    (hS3 : St w rows0 wr N s P3 ea fpr nl3 raw3 rec3 fi3 fp3 (.slice a0 n0 c0) pb [qb] (fs.flatten ++ acc) (ends 0 fs) fs.length rl) (hM3 : Cs.mach 2 acc fs rl nl3 (cur ++ Cs.norm P3) = M) (hk3 : cur.length + P3.length < gk) (hB3 : nl3 + P3.length ≤ B ∨ (cur = [] ∧ P3 = [] ∧ nl3 ≤ B + 1)) (hT3 : fs.length + fs.flatten.length + acc.length + cur.length + P3.length ≤ T) (hTb : T ≤ 8396800) (hBb : B ≤ 950000000)
    (hEw : Env w N ea fa) (hrows : ∀ k, OwnS N rows0 k → N ≤ k) (hNw : N ≤ w.heap.size) (hq : (34 : UInt8) ∉ cur)
    (hr : ∀ a w' k', k' < gk → (∃ lv f, a = fr3 N a0 n0 c0 lv .nilIface rl pb qb f ∧ R3 N s ea fpr M w rows0 (.slice a0 n0 c0) pb qb rl B T k' lv w') → K3 a w')
    (hb : ∀ a w', (∃ lv e8 f, a = fr2 N a0 n0 c0 lv e8 rl pb f ∧ RE N s ea fpr M w rows0 (.slice a0 n0 c0) pb rl B T e8 w') → K a w') :
    Code.wp Tryf.prog (sub (Tryf.f48.body.getD .skip) [1, 4, 1, 1, 1, 1, 1, 1, 1, 1, 1, 1, 1, 1, 1, 0, 2, 3, 2, 1, 1, 1, 1, 1, 1, 2, 3, 2, 1, 1, 1]) (Exit.inBlock 5 (Exit.then K3 (Exit.inBlock 4 (Exit.inBlock 3 (Exit.then K2 (Exit.inBlock 2 (Exit.then K (Exit.noGoto (bodyPost Tryf.prog Tryf.f48 Post)))))))))
      (fr3 N a0 n0 c0 (.slice (some ⟨g3, o3, none⟩) cur.length c3) .nilIface rl pb qb f) wr := by
  conv => arg 2; dsimp only [Tryf.f48, Option.getD]
  simp only [sub, Nat.reduceEqDiff, if_true, if_false, Nat.one_ne_zero]
  have hr' := hide hr
  have hb' := hide hb
  clear hr hb
  have hE3 : Env wr N ea fa := hEw.fr hS3.fr hrows hNw
  have hEw' := hide hEw
  obtain ⟨i3, r3, n3, e3, bs3, pr3, lb3, lr3, off3, m3, xs3, hRx3⟩ := id hS3.rd
  obtain ⟨k0, k1, k2, k3, k4, k5, k7, k8, k9, k10, k11, k12, k13, k14⟩ := hRx3.csv.cells
  have f11 := hRx3.csv.frozen 11
  have hC3' := hide hRx3.csv
  obtain ⟨bts, hbts⟩ : ∃ b, fs.flatten ++ acc = b := ⟨_, rfl⟩
  obtain ⟨ix, hix⟩ : ∃ x, ends 0 fs = x := ⟨_, rfl⟩
  rw [hbts, hix] at hS3
  have hbl : bts.length = fs.flatten.length + acc.length := by rw [← hbts, List.length_append]
  have hT3b : fs.length + bts.length + cur.length + P3.length ≤ T := by omega
  have hbl' := hide hbl
  have hbts' := hide hbts
  have hix' := hide hix
  have hT3' := hide hT3
  have hLA3' := hide hLA3
  have hok3' := hide hok3
  have hS3' := hide hS3
  have hM3' := hide hM3
  have hq' := hide hq
  have hcl : cur.length ≤ 8396800 := by omega
  obtain ⟨pl, pc, hps, _⟩ := hS3.pos
  have p0 : wr.cell? ⟨pb, 0, none⟩ = some (.int .i64 pl) := by rw [cell_of_row wr _ _ _ _ _ hps]; rfl
  have p1 : wr.cell? ⟨pb, 1, none⟩ = some (.int .i64 pc) := by rw [cell_of_row wr _ _ _ _ _ hps]; rfl
  obtain ⟨v3, e3'⟩ := hE3.glob.e3
  clear hbts hix hbl hT3 hLA3 hok3 hS3 hM3 hE3 hEw hRx3 k0 k1 k2 k4 k5 k7 k8 k9 k10 k12 k13 k14 hq hps
  unfold fr3
  by_cases hc0 : cur = []
  · subst hc0
    have hP0 : P3 = [] := by
      rcases unhide hok3' with ⟨_, h⟩ | ⟨a, h, _⟩
      · exact h
      · simp at h
    have hbad : Hid (M = ([], true)) := by
      rw [Hid, ← unhide hM3', hP0]
      exact Cs.mach2_nil _ _ _ _
    have hSal := hide (fun w2 (hb : Below wr.heap.size wr w2) => (unhide hS3').below hb)
    clear hP0
    go_wp2
    refine unhide hb' _ _ (out_fr2 (.slice (some ⟨g3, o3, none⟩) 0 c3) (.iface 98 (.pointer (some ⟨wr.heap.size, 0, none⟩))) (by rfl) ?_)
    refine ⟨P3, acc, nl3, raw3, rec3, fi3, fp3, [qb], fs, ?_, ?_, .inr ⟨unhide hbad, _, rfl⟩⟩
    · rw [unhide hbts', unhide hix']
      exact unhide hSal _ ((Below.refl _ wr).alloc (Nat.le_refl _) _)
    · have := unhide hT3'; omega
  · have hlp : 0 < cur.length := List.length_pos_iff.2 hc0
    have hlpI : (0 : Int) < cur.length := by omega
    have hBn : nl3 + P3.length ≤ B := by
      rcases hB3 with h | h
      · exact h
      · exact absurd h.1 hc0
    obtain ⟨i5, hi5, hz50, hz51, hz52⟩ := info_parts Tryf.info5
    have hmx : bts.length + cur.length ≤ maxLen := by unfold maxLen; omega
    have hbase3 : N + 4 ≤ wr.heap.size := (R0.bound (unhide hS3').rd).2
    have hrr := hide (unhide hS3').rrec
    obtain ⟨rA, rC, hrec3⟩ := own_shape' (unhide hrr)
    subst hrec3
    have hnw := hide (bytes_news (unhide hLA3').bytes)
    clear p0 hB3 k3
    go_wp2_with (at_builtin; refine wpList_append_where _ rfl _ _ 29 rfl (N + 4) 5 i5 (.int .u8 0) 1 1 Tryf.underlying29 hi5 hz50 hz51 hz52 rfl (by decide) _ bts.length _ rfl (unhide hrr) ⟨g3, o3, none⟩ cur.length c3 (cur.map byteV) rfl (by simp) (unhide hnw) (byteV_one cur) hmx (by omega) hbase3 ?_)
    intro v4 w4 hown4 hgrow4 _ hwh4
    replace hown4 : w4.ownsRow (N + 4) 5 1 v4 (bts ++ cur).length ((bts ++ cur).map byteV) := by simpa using hown4
    obtain ⟨vA, vC, rfl⟩ := own_shape' hown4
    have hS4 := hide ((unhide hS3').app_rec cur hown4 (fr_grown hgrow4) (own_or hwh4))
    have m11 : w4.cell? ⟨N + 3, 11, none⟩ = some (.slice rA bts.length rC) := (fr_grown hgrow4).cell k11 (fun e => by have := ((unhide hrr).lt _ e).1; have : N + 4 ≤ N + 3 := this; omega)
    have mf11 : w4.frozen? ⟨N + 3, 11, none⟩ = false := ((unhide hC3').fr (fr_grown hgrow4) (fun e => by have := ((unhide hrr).lt _ e).1; omega)).frozen 11
    have hap : (bts ++ cur).length = bts.length + cur.length := List.length_append
    rw [hap] at hS4 ⊢
    obtain ⟨pl4, pc4, hps4, _⟩ := (unhide hS4).pos
    clear hown4 hgrow4 hwh4 p1 k11 f11
    go_upto_region 70 with fail
    generalize w4.setCell ⟨N + 3, 11, none⟩ (.slice vA (bts.length + cur.length) vC) = W4 at hS4 hps4 ⊢
    clear m11 mf11 hrr hnw hmx hbase3 hap hLA3' hS3' hC3' e3'
    have p1 : W4.cell? ⟨pb, 1, none⟩ = some (.int .i64 pc4) := by rw [cell_of_row W4 _ _ _ _ _ hps4]; rfl
    have pf1 : W4.frozen? ⟨pb, 1, none⟩ = false := frozen_of_row W4 _ _ _ _ hps4
    have hS5 := hide (fun x => (unhide hS4).setpos 1 x (.inl rfl))
    have HL : Hid (∀ x, Calls Tryf.prog 53 #[.pointer (some ⟨N + 3, 0, none⟩)] (W4.setCell ⟨pb, 1, none⟩ (.int .i64 x)) (LinePost N s P3 ea fpr nl3 raw3 (.slice vA (bts.length + cur.length) vC) fi3 fp3 (.slice a0 n0 c0) (W4.setCell ⟨pb, 1, none⟩ (.int .i64 x)))) := fun x =>
      readLine_any N s P3 ea fa fpr nl3 raw3 _ fi3 fp3 _ _ (unhide hS5 x).rd (((unhide hEw').fr (unhide hS5 x).fr hrows hNw).glob) (by omega)
    clear hps4
    go_wp2_with fail
    refine (unhide HL _).mono ?_
    rintro en w6 ⟨raw6, P6, l6, ev6, g6, o6, c6, rfl, hLA6, hRd6, hF6, hN6, hcs6⟩
    have hS6 := hide ((unhide hS5 _).line hRd6 hF6 hN6 (by obtain ⟨i, r, n, e, bs, pr, lb, lr, off, m, xs, hR⟩ := hRd6; exact hR.row.lt))
    have hLA6' := hide hLA6
    have hE6 : Env w6 N ea fa := (unhide hEw').fr (unhide hS6).fr hrows hNw
    have he6 := hE6.glob.eof
    obtain ⟨pl6, pc6, hps6, _⟩ := (unhide hS6).pos
    have p60 : w6.cell? ⟨pb, 0, none⟩ = some (.int .i64 pl6) := by rw [cell_of_row w6 _ _ _ _ _ hps6]; rfl
    have p61 : w6.cell? ⟨pb, 1, none⟩ = some (.int .i64 pc6) := by rw [cell_of_row w6 _ _ _ _ _ hps6]; rfl
    have pf60 : w6.frozen? ⟨pb, 0, none⟩ = false := frozen_of_row w6 _ _ _ _ hps6
    have pf61 : w6.frozen? ⟨pb, 1, none⟩ = false := frozen_of_row w6 _ _ _ _ hps6
    clear hLA6 hRd6 hF6 hN6 HL hS5 hS4 p1 pf1 hps6 hE6
    rcases hcs6 with ⟨hP3, rfl, hP6, rfl⟩ | ⟨hP3, rfl, hl6, hP6⟩
    · have q2 := eql_same w6 ea
      have hMn : Hid (Cs.mach 2 (acc ++ cur) fs rl (nl3 + 1) ([] ++ Cs.norm P6) = M) := by
        rw [Hid, hP6, ← unhide hM3', hP3, Cs.quot_end (unhide hq')]
        exact Cs.mach2_nil _ _ _ _
      have hSn : Hid (St w rows0 w6 N s P6 ea fpr (nl3 + 1) raw6 (.slice vA (bts.length + cur.length) vC) fi3 fp3 (.slice a0 n0 c0) pb [qb] (fs.flatten ++ (acc ++ cur)) (ends 0 fs) fs.length rl) := by
        rw [Hid, ← List.append_assoc, unhide hbts', unhide hix']
        exact unhide hS6
      have hP6' := hide hP6
      clear hP3 hP6 p60 p61 pf60 pf61
      go_wp2
      refine unhide hr' _ _ 1 (by omega) (start_fr3 (.slice (some ⟨g6, o6, none⟩) 0 c6) (by rfl) ?_)
      refine ⟨P6, [], acc ++ cur, nl3 + 1, raw6, _, fi3, fp3, g6, o6, c6, fs, rfl, unhide hLA6', .inl ⟨by simp, unhide hP6'⟩, unhide hSn, unhide hMn, by rw [unhide hP6']; simp, .inr ⟨rfl, unhide hP6', by omega⟩, ?_⟩
      have := unhide hT3'
      rw [unhide hP6', List.length_append, List.length_nil]; omega
    · have q0 := fun W => eql_nil W ea
      have hpb0 : N + 4 ≤ pb := ((unhide hS6).lies (blkV pb) (by simp [rowsOf]) pb rfl).1
      have hpb1 : ¬ pb = 0 := by omega
      have hpb2 : ¬ 0 = pb := by omega
      obtain ⟨hs1, hs2, hs3⟩ := Cs.line_shape P3 hP3
      rw [← hl6, ← hP6] at hs1
      rw [← hl6, ← hP6] at hs3
      rw [← hP6] at hs2
      have hMn : Hid (Cs.mach 2 (acc ++ cur) fs rl (nl3 + 1) (l6 ++ Cs.norm P6) = M) := by
        rw [Hid, ← unhide hM3', Cs.quot_line (unhide hq') (unhide hok3') hP3, hs1]
      have hSn : Hid (St w rows0 w6 N s P6 ea fpr (nl3 + 1) raw6 (.slice vA (bts.length + cur.length) vC) fi3 fp3 (.slice a0 n0 c0) pb [qb] (fs.flatten ++ (acc ++ cur)) (ends 0 fs) fs.length rl) := by
        rw [Hid, ← List.append_assoc, unhide hbts', unhide hix']
        exact unhide hS6
      have hl6l : l6.length + P6.length ≤ P3.length := by
        have h1 := Cs.norm_length (Cs.cutLine P3).1
        have h2 := congrArg List.length (Cs.cut_append P3)
        rw [List.length_append] at h2
        rw [hl6, hP6]; omega
      have hs3' := hide hs3
      have hfin : Hid (∀ W, Fr (fun k => k = pb) w6 W → St w rows0 W N s P6 ea fpr (nl3 + 1) raw6 (.slice vA (bts.length + cur.length) vC) fi3 fp3 (.slice a0 n0 c0) pb [qb] (fs.flatten ++ (acc ++ cur)) (ends 0 fs) fs.length rl → R3 N s ea fpr M w rows0 (.slice a0 n0 c0) pb qb rl B T (P3.length + 1) (.slice (some ⟨g6, o6, none⟩) l6.length c6) W) := by
        intro W hF hSt
        refine ⟨P6, l6, acc ++ cur, nl3 + 1, raw6, _, fi3, fp3, g6, o6, c6, fs, rfl, (unhide hS6).line_keep (i := 5) rfl (by omega) (hF.mono (fun k _ e => .inr (by rw [e]; rfl))) (unhide hLA6'), unhide hs3', hSt, unhide hMn, by omega, .inl (by omega), ?_⟩
        have := unhide hT3'
        rw [List.length_append]; omega
      clear hl6 hP6 hs1 hs3 hP3
      by_cases hl0 : l6 = []
      · subst hl0
        clear p60 p61 pf60 pf61
        go_wp2
        refine unhide hr' _ _ (P3.length + 1) (by omega) (start_fr3 (.slice (some ⟨g6, o6, none⟩) 0 c6) (by rfl) ?_)
        exact unhide hfin _ (Fr.refl _ _) (unhide hSn)
      · have hlpI6 : (0 : Int) < l6.length := by have := List.length_pos_iff.2 hl0; omega
        clear hl0
        go_wp2
        refine unhide hr' _ _ (P3.length + 1) (by omega) (start_fr3 (.slice (some ⟨g6, o6, none⟩) l6.length c6) (by rfl) ?_)
        exact unhide hfin _ ((fr_setCell _ _ _ _).trans (fr_setCell _ _ _ _) (fun _ _ h => h)) (((unhide hSn).setpos 0 _ (.inr ⟨rfl, by simp⟩)).setpos 1 _ (.inl rfl))
end Go.Proofs.Qxb6612546aFmt
