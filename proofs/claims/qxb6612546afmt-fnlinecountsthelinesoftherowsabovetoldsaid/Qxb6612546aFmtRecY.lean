import Derived.Test.Qxb6612546aFmtRec1
namespace Go.Proofs.Qxb6612546aFmt
open Go.RowKit

set_option maxRecDepth 100000 in
set_option maxHeartbeats 4000000 in
/-- A quoted field ends at a comma. -/
theorem quotY48 (K3 K2 K : Act → World → Prop) (Post : Ending → World → Prop) (N : Nat) (s : ByteArray) (ea : Addr) (fpr : Int) (M : List (List (List UInt8) × Nat) × Bool) (w : World) (rows0 : List Value) (a0 : Option Addr) (n0 c0 pb qb rl B T gk : Nat) (wr : World) (f : Nat → Value)
    (P3 curL x btx : List UInt8) (nl3 : Nat) (raw3 rec3 fi3 fp3 : Value) (g3 oL cL : Nat) (fs : List (List UInt8)) (hLA3 : LineAt wr N raw3 g3 oL cL curL)
    (hS3 : St w rows0 wr N s P3 ea fpr nl3 raw3 rec3 fi3 fp3 (.slice a0 n0 c0) pb [qb] btx (ends 0 fs) fs.length rl) (hbx : fs.flatten ++ x = btx) (hT3 : fs.length + btx.length + curL.length + P3.length ≤ T) (hTb : T ≤ 8396800) (hB3 : nl3 + P3.length ≤ B)
    (t : List UInt8) (hcur : curL = 44 :: t) (hok : Cs.LnOK t P3) (hMn : Cs.mach 0 [] (fs ++ [x]) rl nl3 (t ++ Cs.norm P3) = M) (hk0 : t.length + P3.length + 1 < gk)
    (hk : ∀ a w' k', k' < gk → (∃ lv f, a = fr2 N a0 n0 c0 lv .nilIface rl pb f ∧ R2 N s ea fpr M w rows0 (.slice a0 n0 c0) pb rl B T k' lv w') → K2 a w') :
    Code.wp Tryf.prog (sub (Tryf.f48.body.getD .skip) [1, 4, 1, 1, 1, 1, 1, 1, 1, 1, 1, 1, 1, 1, 1, 0, 2, 3, 2, 1, 1, 1, 1, 1, 1, 2, 3, 2, 1, 1, 0, 1, 1, 1, 1, 2, 1, 1, 1, 0]) (Exit.inBlock 6 (Exit.inBlock 5 (Exit.then K3 (Exit.inBlock 4 (Exit.inBlock 3 (Exit.then K2 (Exit.inBlock 2 (Exit.then K (Exit.noGoto (bodyPost Tryf.prog Tryf.f48 Post))))))))))
      (fr3 N a0 n0 c0 (.slice (some ⟨g3, oL, none⟩) curL.length cL) .nilIface rl pb qb f) wr := by
  conv => arg 2; dsimp only [Tryf.f48, Option.getD]
  simp only [sub, Nat.reduceEqDiff, if_true, if_false, Nat.one_ne_zero]
  have hk' := hide hk
  clear hk
  obtain ⟨he1, he2⟩ := ends_snoc (fl := x) (fs := fs) rfl rfl
  rw [hbx] at he1
  obtain ⟨ix, hix⟩ : ∃ y, ends 0 fs = y := ⟨_, rfl⟩
  have hbl : btx.length = fs.flatten.length + x.length := by rw [← hbx, List.length_append]
  rw [hix, ← hbl] at he2
  rw [hix] at hS3
  have hixl : ix.length = fs.length := by rw [← hix, ends_length]
  have he1' := hide he1
  have he2' := hide he2
  have hixl' := hide hixl
  have hixb : ix.length ≤ 8396800 := by omega
  obtain ⟨vA, vC, hrec3⟩ := own_shape' hS3.rrec
  subst hrec3
  obtain ⟨bl, hbl2⟩ : ∃ bl, btx.length = bl := ⟨_, rfl⟩
  rw [hbl2] at hS3 he2' hT3
  have hbl2' := hide hbl2
  clear he1 he2 hix hixl hbl hbx hbl2
  unfold fr3
  obtain ⟨oM, hoM, hLAM⟩ := hLA3.drop 1 (by rw [hcur]; simp)
  have hdr : curL.drop 1 = t := by rw [hcur]; rfl
  rw [hdr] at hLAM
  have hlt : curL.length = t.length + 1 := by rw [hcur]; rfl
  have hcap := hLA3.cap
  have h1I : (1 : Int) ≤ curL.length := by omega
  have hsub1 : curL.length - 1 = t.length := by omega
  obtain ⟨pl0, pc0, hps0, _⟩ := hS3.pos
  have pp1 : wr.cell? ⟨pb, 1, none⟩ = some (.int .i64 pc0) := by rw [cell_of_row wr _ _ _ _ _ hps0]; rfl
  have ppf1 : wr.frozen? ⟨pb, 1, none⟩ = false := frozen_of_row wr _ _ _ _ hps0
  have hS3' := hide hS3
  have hLAM' := hide hLAM
  have hlt' := hide hlt
  have hok' := hide hok
  have hMn' := hide hMn
  clear hcur hdr hLAM hLA3 hS3 hps0 hok hMn hlt
  go_wp2
  have hS7 := hide ((unhide hS3').setpos 1 (wrap64 (pc0 + 1)) (.inl rfl))
  have hLA7 := hide ((unhide hS3').line_keep (i := 5) rfl (by omega) ((fr_setCell wr pb 1 (.int .i64 (wrap64 (pc0 + 1)))).mono (fun k _ e => .inr (by rw [e]; rfl))) (unhide hLAM'))
  generalize wr.setCell ⟨pb, 1, none⟩ (.int .i64 (wrap64 (pc0 + 1))) = W7 at hS7 hLA7 ⊢
  clear pp1 ppf1 hS3' hLAM' 
  obtain ⟨fA, fC, hfi3⟩ := own_shape' (unhide hS7).rfi
  subst hfi3
  obtain ⟨i8, r8, n8, e8', bs8, pr8, lb8, lr8, off8, m8, xs8, hRx8⟩ := id (unhide hS7).rd
  obtain ⟨_, _, _, _, _, _, _, _, _, _, k11, k12, _, _⟩ := hRx8.csv.cells
  have hC8 := hide hRx8.csv
  have hr8l : Hid (∀ g, (Value.slice fA ix.length fC).ownBlock = some g → N + 4 ≤ g) := fun g hg => ((unhide hS7).rfi.lt g hg).1
  clear hRx8
  obtain ⟨j3, hj3, hj30, hj31, hj32⟩ := info_parts Tryf.info3
  have hmx3 : ix.length + 1 ≤ maxLen := by unfold maxLen; omega
  have hbase8 : N + 4 ≤ W7.heap.size := (R0.bound (unhide hS7).rd).2
  have ha12 : ∀ o, (W7.alloc o).cell? ⟨N + 3, 12, none⟩ = some (.slice fA ix.length fC) := fun o => by rw [((Below.refl _ W7).alloc (Nat.le_refl _) o).cell (World.block_lt_of_cell? _ _ k12)]; exact k12
  have ha11 : ∀ o, (W7.alloc o).cell? ⟨N + 3, 11, none⟩ = some (.slice vA bl vC) := fun o => by rw [((Below.refl _ W7).alloc (Nat.le_refl _) o).cell (World.block_lt_of_cell? _ _ k11)]; exact k11
  go_wp2
  go_cut [] from 330 to 343 (fun wx => ∃ fi', St w rows0 wx N s P3 ea fpr nl3 raw3 (.slice vA bl vC) fi' fp3 (.slice a0 n0 c0) pb [qb] btx (ix ++ [bl]) fs.length rl ∧ LineAt wx N raw3 g3 oM (cL - 1) t)
  case first =>
    go_region_law (refine step_append_where rfl (.tmp 334) (.tmp 340) 26 rfl (N + 4) 3 j3 (.int .i64 0) 1 8 Tryf.underlying26 hj3 hj30 hj31 hj32 rfl (by decide) (.slice fA ix.length fC) ix.length (ix.map intV) (by simp [Act.eval]) (by exact (unhide hS7).rfi.alloc _) ⟨W7.heap.size, 0, none⟩ 1 1 [intV bl] (by simp [Act.eval]) rfl (by exact cell_one_new _ _ _) (by simp [Value.oneCell', intV]) hmx3 (by omega) (by simp; omega) ?_; intro v5 w5 hown5 hgrow5 _ hwh5; obtain ⟨xA, xC, rfl⟩ := own_shape' hown5; have hC5 := csv_grown (unhide hC8) hgrow5 (unhide hr8l); have m12 := hC5.cells.2.2.2.2.2.2.2.2.2.2.2.1; have mf12 := hC5.frozen 12; clear hC5)
    all_goals
      go_wp2
      go_meet
      case rel =>
        refine ⟨_, (unhide hS7).app_fi bl (by simpa using hown5) (fr_grownA hgrow5) (own_orA hwh5), ?_⟩
        exact (unhide hS7).line_keep (i := 2) rfl (by omega) ((fr_grownA hgrow5).mono (fun _ _ h => .inr h) |>.trans (fr_setCell _ _ _ _) (fun _ _ h => .inl h)) (unhide hLA7)
  case rest =>
    obtain ⟨fi9, hS9, hLA9⟩ := hcut
    have hS9' := hide hS9
    have hLA9' := hide hLA9
    clear hS9 hLA9 ha11 ha12 k11 k12 hS7 hLA7 hC8 hr8l hmx3 hbase8
    obtain ⟨cells, hp1, hp2⟩ := (unhide hS9').rfp
    obtain ⟨pA, pC, hfp3⟩ := own_shapeN hp1
    subst hfp3
    obtain ⟨pl, pc, hps, hpl⟩ := (unhide hS9').qos qb (by simp)
    obtain ⟨i9, r9, n9, e9, bs9, pr9, lb9, lr9, off9, m9, xs9, hRx9⟩ := id (unhide hS9').rd
    obtain ⟨_, _, _, _, _, _, _, _, _, _, _, _, k13, _⟩ := hRx9.csv.cells
    have hC9' := hide hRx9.csv
    have p0 : wc.cell? ⟨qb, 0, none⟩ = some (.int .i64 pl) := by rw [cell_of_row wc _ _ _ _ _ hps]; rfl
    have p1 : wc.cell? ⟨qb, 1, none⟩ = some (.int .i64 pc) := by rw [cell_of_row wc _ _ _ _ _ hps]; rfl
    have hr9l : Hid (∀ g, (Value.slice pA fs.length pC).ownBlock = some g → N + 4 ≤ g) := fun g hg => (hp1.lt g hg).1
    have hp1' := hide hp1
    have hp2' := hide hp2
    have hpl' := hide hpl
    have hcells : Hid (cells.length = fs.length * 2) := hp1.1
    obtain ⟨j8, hj8, hj80, hj81, hj82⟩ := info_parts Tryf.info82
    have hmx8 : fs.length + 1 ≤ maxLen := by unfold maxLen; omega
    have hbase9 : N + 4 ≤ wc.heap.size := (R0.bound (unhide hS9').rd).2
    have ha13 : ∀ o, (wc.alloc o).cell? ⟨N + 3, 13, none⟩ = some (.slice pA fs.length pC) := fun o => by rw [((Below.refl _ wc).alloc (Nat.le_refl _) o).cell (World.block_lt_of_cell? _ _ k13)]; exact k13
    clear hRx9 hp1 hp2 hpl hps
    go_wp2
    go_cut [] from 344 to 353 (fun wx => ∃ fp', St w rows0 wx N s P3 ea fpr nl3 raw3 (.slice vA bl vC) fi9 fp' (.slice a0 n0 c0) pb [qb] btx (ix ++ [bl]) (fs.length + 1) rl ∧ LineAt wx N raw3 g3 oM (cL - 1) t)
    case first =>
      go_region_law (refine step_append_where rfl (.tmp 348) (.tmp 350) 71 rfl (N + 4) 82 j8 (.agg #[.int .i64 0, .int .i64 0]) 2 16 Tryf.underlying71 hj8 hj80 hj81 hj82 rfl (by decide) (.slice pA fs.length pC) fs.length cells (by simp [Act.eval]) (by exact (unhide hp1').alloc _) ⟨wc.heap.size, 0, none⟩ 1 1 [.int .i64 pl, .int .i64 pc] (by simp [Act.eval]) rfl (by exact cell_two_new _ _ _ _) (by simp [Value.oneCell']) hmx8 (by omega) (by simp; omega) ?_; intro v6 w6 hown6 hgrow6 _ hwh6; obtain ⟨yA, yC, rfl⟩ := own_shapeN hown6; have hC6 := csv_grown (unhide hC9') hgrow6 (unhide hr9l); have m13 := hC6.cells.2.2.2.2.2.2.2.2.2.2.2.2.1; have mf13 := hC6.frozen 13; clear hC6)
      all_goals
        go_wp2
        go_meet
        case rel =>
          refine ⟨_, (unhide hS9').app_fp pl pc (unhide hp2') (unhide hcells) (unhide hpl') (by simpa using hown6) (fr_grownA hgrow6) (own_orA hwh6), ?_⟩
          exact (unhide hS9').line_keep (i := 3) rfl (by omega) ((fr_grownA hgrow6).mono (fun _ _ h => .inr h) |>.trans (fr_setCell _ _ _ _) (fun _ _ h => .inl h)) (unhide hLA9')
    case rest =>
      obtain ⟨fpA, hSA, hLAA⟩ := hcut
      have hSA' := hide hSA
      have hLAA' := hide hLAA
      clear hSA hLAA ha13 k13 p0 p1 hcells hpl' hp2' hp1' hr9l hC9' hmx8 hbase9
      go_wp2
      refine unhide hk' _ _ (t.length + P3.length + 1) hk0 (start_fr2 (.slice (some ⟨g3, oM, none⟩) t.length (cL - 1)) (by rfl) ?_)
      refine ⟨P3, t, nl3, raw3, .slice vA bl vC, fi9, fpA, g3, oM, cL - 1, fs ++ [x], rfl, unhide hLAA', unhide hok', ?_, unhide hMn', by omega, hB3, ?_⟩
      · rw [unhide he1', unhide he2', List.length_append]
        exact (unhide hSA').dropq (by omega)
      · rw [unhide he1', unhide hbl2', List.length_append]
        have := unhide hlt'
        simp; omega

end Go.Proofs.Qxb6612546aFmt
