import Derived.Test.Qxb6612546aFmtRecA
namespace Go.Proofs.Qxb6612546aFmt
open Go.RowKit

theorem to_fr3x {c : Code} {Q : Exit → Act → World → Prop} {w : World} {a : Act} {N : Nat} {a0 : Option Addr} {n0 c0 : Nat} {rl : Int} {pb qb : Nat} (lv e8 : Value) (h : a = fr3 N a0 n0 c0 lv e8 rl pb qb (fun i => nthV a.tmps.toList i)) (hw : Code.wp Tryf.prog c Q (fr3 N a0 n0 c0 lv e8 rl pb qb (fun i => nthV a.tmps.toList i)) w) : Code.wp Tryf.prog c Q a w := by
  rw [h]; exact hw

set_option maxRecDepth 100000 in
set_option maxHeartbeats 4000000 in
/-- A quoted field. -/
theorem quot48 (K2 K : Act → World → Prop) (Post : Ending → World → Prop) (N : Nat) (s : ByteArray) (ea fa : Addr) (fpr : Int) (M : List (List (List UInt8) × Nat) × Bool) (w : World) (rows0 : List Value) (a0 : Option Addr) (n0 c0 pb rl B T gk : Nat) (wr : World) (f : Nat → Value)
    (P3 cur t : List UInt8) (nl3 : Nat) (raw3 rec3 fi3 fp3 : Value) (g3 o3 c3 : Nat) (fs : List (List UInt8)) (hLA3 : LineAt wr N raw3 g3 o3 c3 cur) (hok3 : Cs.LnOK cur P3) (hcur : cur = 34 :: t)
    (hS3 : St w rows0 wr N s P3 ea fpr nl3 raw3 rec3 fi3 fp3 (.slice a0 n0 c0) pb [] fs.flatten (ends 0 fs) fs.length rl) (hM3 : Cs.mach 0 [] fs rl nl3 (cur ++ Cs.norm P3) = M) (hk3 : cur.length + P3.length < gk) (hB3 : nl3 + P3.length ≤ B) (hT3 : fs.length + fs.flatten.length + cur.length + P3.length ≤ T) (hTb : T ≤ 8396800) (hBb : B ≤ 950000000)
    (hEw : Env w N ea fa) (hrows : ∀ k, OwnS N rows0 k → N ≤ k) (hNw : N ≤ w.heap.size)
    (hc : ∀ a w' k', k' < gk → (∃ lv f, a = fr2 N a0 n0 c0 lv .nilIface rl pb f ∧ R2 N s ea fpr M w rows0 (.slice a0 n0 c0) pb rl B T k' lv w') → K2 a w')
    (hb : ∀ a w', (∃ lv e8 f, a = fr2 N a0 n0 c0 lv e8 rl pb f ∧ RE N s ea fpr M w rows0 (.slice a0 n0 c0) pb rl B T e8 w') → K a w') :
    Code.wp Tryf.prog (sub (Tryf.f48.body.getD .skip) [1, 4, 1, 1, 1, 1, 1, 1, 1, 1, 1, 1, 1, 1, 1, 0, 2, 3, 2, 1, 1, 1]) (Exit.inBlock 3 (Exit.then K2 (Exit.inBlock 2 (Exit.then K (Exit.noGoto (bodyPost Tryf.prog Tryf.f48 Post))))))
      (fr2 N a0 n0 c0 (.slice (some ⟨g3, o3, none⟩) cur.length c3) .nilIface rl pb f) wr := by
  conv => arg 2; dsimp only [Tryf.f48, Option.getD]
  simp only [sub, Nat.reduceEqDiff, if_true, if_false, Nat.one_ne_zero]
  have hb' := hide hb
  have hc' := hide hc
  clear hb hc
  obtain ⟨pl, pc, hps, hpl⟩ := hS3.pos
  have p0 : wr.cell? ⟨pb, 0, none⟩ = some (.int .i64 pl) := by rw [cell_of_row wr _ _ _ _ _ hps]; rfl
  have p1 : wr.cell? ⟨pb, 1, none⟩ = some (.int .i64 pc) := by rw [cell_of_row wr _ _ _ _ _ hps]; rfl
  have pf1 : wr.frozen? ⟨pb, 1, none⟩ = false := frozen_of_row wr _ _ _ _ hps
  have hpbl := (hS3.lies (blkV pb) (by simp [rowsOf]) pb rfl).2
  have hbA : Below wr.heap.size wr (wr.alloc (.cells #[.int .i64 pl, .int .i64 pc] 82)) := (Below.refl _ wr).alloc (Nat.le_refl _) _
  have hSq := hide (hS3.newq (qb := wr.heap.size) hbA (Nat.le_refl _) (by simp) ⟨pl, pc, by show (wr.heap.push _)[wr.heap.size]? = _; simp, fun h0 => hpl rfl h0⟩)
  have hLq := hLA3.below hbA
  obtain ⟨oT, hoT, hLT⟩ := hLq.drop 1 (by rw [hcur]; simp)
  have hdt : cur.drop 1 = t := by rw [hcur]; rfl
  rw [hdt] at hLT
  have hpl1 : cur.length = t.length + 1 := by rw [hcur]; rfl
  have hSf := hide (fun x => (unhide hSq).setpos 1 x (.inl rfl))
  have hLf := hide (fun x => (unhide hSq).line_keep (i := 5) rfl (by omega) ((fr_setCell _ pb 1 (.int .i64 x)).mono (fun k _ e => .inr (by rw [e]; rfl))) hLT)
  have hMq : Hid (Cs.mach 2 [] fs rl nl3 (t ++ Cs.norm P3) = M) := by rw [Hid, ← hM3, hcur, List.cons_append, Cs.mach0_quote]
  have hokt : Hid (Cs.LnOK t P3) := by
    rw [hcur] at hok3
    exact (Cs.lnok_tail (pre := []) (by decide) hok3).2
  have hcap := hLA3.cap
  have h1I : (1 : Int) ≤ cur.length := by omega
  have hsub1 : cur.length - 1 = t.length := by omega
  have hpl1' := hide hpl1
  have hEw' := hide hEw
  have hne : ¬ wr.heap.size = pb := by omega
  have hT3' := hide hT3
  have hk3' := hide hk3
  have hcl : cur.length ≤ 8396800 := by omega
  clear hcur hok3 hM3 hS3 hLA3 hdt hLq hLT hps hpl hSq hpl1 hEw hT3 hbA
  unfold fr2
  go_wp2
  have hL0 : Hid (t.length + P3.length + 1 < gk) := by have := unhide hk3'; have := unhide hpl1'; rw [Hid]; omega
  refine wp_loop_ghost_k (fun k a w' => ∃ lv f, a = fr3 N a0 n0 c0 lv .nilIface rl pb wr.heap.size f ∧ (R3 N s ea fpr M w rows0 (.slice a0 n0 c0) pb wr.heap.size rl B T k lv w' ∧ k ≤ t.length + P3.length + 1)) (t.length + P3.length + 1) ?_ ?_
  · refine start_fr3 (.slice (some ⟨g3, oT, none⟩) t.length (c3 - 1)) (by rfl) ⟨?_, Nat.le_refl _⟩
    rw [← World.setCell_alloc_past _ _ _ _ hpbl]
    refine ⟨P3, t, [], nl3, raw3, rec3, fi3, fp3, g3, oT, c3 - 1, fs, rfl, unhide hLf _, unhide hokt, ?_, unhide hMq, by omega, .inl hB3, ?_⟩
    · rw [List.append_nil]; exact unhide hSf _
    · have := unhide hT3'; have := unhide hpl1'
      rw [List.length_nil]; omega
  · rintro gk3 a wr3 ⟨lv, f3, rfl, ⟨P4, cur4, acc4, nl4, raw4, rec4, fi4, fp4, g4, o4, c4, fs4, rfl, hLA4, hok4, hS4, hM4, hk4, hB4, hT4⟩, hkl⟩ J K3 hJ hK3
    have hr3 : Hid (∀ a w' k', k' < gk3 → (∃ lv f, a = fr3 N a0 n0 c0 lv .nilIface rl pb wr.heap.size f ∧ R3 N s ea fpr M w rows0 (.slice a0 n0 c0) pb wr.heap.size rl B T k' lv w') → K3 a w') := by
      rintro a w' k' hk' ⟨lv, f, h1, h2⟩
      exact hK3 _ _ (Handed.intro k' hk' (hJ _ _ _ ⟨lv, f, h1, h2, by omega⟩))
    have hc3 : Hid (∀ a w' k', k' < gk3 → (∃ lv f, a = fr2 N a0 n0 c0 lv .nilIface rl pb f ∧ R2 N s ea fpr M w rows0 (.slice a0 n0 c0) pb rl B T k' lv w') → K2 a w') := by
      intro a w' k' hk' h
      exact unhide hc' a w' k' (by have := unhide hL0; omega) h
    obtain ⟨q, hq⟩ : ∃ q, Lib.indexByte cur4 34 = q := ⟨_, rfl⟩
    have HI := hide (index_any (some ⟨g4, o4, none⟩) cur4.length c4 cur4 34 q wr3 rfl hLA4.bytes (by simp) hq)
    have hq' := hide hq
    have hLA4' := hide hLA4
    have hok4' := hide hok4
    have hS4' := hide hS4
    have hM4' := hide hM4
    have hB4' := hide hB4
    have hcl4 : cur4.length ≤ 8396800 := by omega
    clear hJ hK3 hq hLA4 hok4 hS4 hM4 hB4 hSf hLf hMq hokt hL0 hc' p0 p1 pf1
    unfold fr3
    go_wp2_with fail
    refine (unhide HI).mono ?_
    rintro en w4 ⟨rfl, hw⟩
    replace hw := hw.symm
    subst hw
    clear HI
    rcases idx_cases (unhide hq') with ⟨pre, post, hcur4, hpre4, rfl⟩ | ⟨hno, rfl⟩
    · have hcur4' := hide hcur4
      have hpre4' := hide hpre4
      have hBn : Hid (nl4 + P4.length ≤ B) := by
        rcases unhide hB4' with h | h
        · exact h
        · rw [h.1] at hcur4; simp at hcur4
      clear hcur4 hpre4 hq'
      go_upto_if 261 with fail
      refine wp_cond_true (by first | rfl | simp [Act.eval]) ?_
      refine to_fr3x (.slice (some ⟨g4, o4, none⟩) cur4.length c4) .nilIface (by rfl) ?_
      exact quotA48 K3 K2 K Post N s ea fa fpr M w rows0 a0 n0 c0 pb wr.heap.size rl B T gk3 wr3 _ P4 cur4 acc4 pre post nl4 raw4 rec4 fi4 fp4 g4 o4 c4 fs4 (unhide hLA4') (unhide hok4') (unhide hcur4') (unhide hpre4') (by rfl) (unhide hS4') (unhide hM4') hk4 (unhide hBn) hT4 hTb (unhide hEw') hrows hNw (unhide hr3) (unhide hc3) (unhide hb')
    · have hno' := hide hno
      clear hno hq'
      go_upto_if 261 with fail
      refine wp_cond_false (by first | rfl | simp [Act.eval]) ?_
      refine to_fr3x (.slice (some ⟨g4, o4, none⟩) cur4.length c4) .nilIface (by rfl) ?_
      exact quotB48 K3 K2 K Post N s ea fa fpr M w rows0 a0 n0 c0 pb wr.heap.size rl B T gk3 wr3 _ P4 cur4 acc4 nl4 raw4 rec4 fi4 fp4 g4 o4 c4 fs4 (unhide hLA4') (unhide hok4') (unhide hS4') (unhide hM4') hk4 (unhide hB4') hT4 hTb hBb (unhide hEw') hrows hNw (unhide hno') (unhide hr3) (unhide hb')
end Go.Proofs.Qxb6612546aFmt
