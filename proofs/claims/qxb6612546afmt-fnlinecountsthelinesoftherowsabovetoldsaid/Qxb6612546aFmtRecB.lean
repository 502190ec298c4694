import Derived.Test.Qxb6612546aFmtRec1
namespace Go.Proofs.Qxb6612546aFmt
open Go.RowKit

set_option maxRecDepth 100000 in
set_option maxHeartbeats 4000000 in
/-- A bare field. -/
theorem bare48 (K2 K : Act → World → Prop) (Post : Ending → World → Prop) (N : Nat) (s : ByteArray) (ea fa : Addr) (fpr : Int) (M : List (List (List UInt8) × Nat) × Bool) (w : World) (rows0 : List Value) (a0 : Option Addr) (n0 c0 pb rl B T gk : Nat) (wr : World) (f : Nat → Value)
    (P3 cur : List UInt8) (nl3 : Nat) (raw3 rec3 fi3 fp3 : Value) (g3 o3 c3 : Nat) (fs : List (List UInt8)) (hLA3 : LineAt wr N raw3 g3 o3 c3 cur) (hok3 : Cs.LnOK cur P3)
    (hS3 : St w rows0 wr N s P3 ea fpr nl3 raw3 rec3 fi3 fp3 (.slice a0 n0 c0) pb [] fs.flatten (ends 0 fs) fs.length rl) (hM3 : Cs.mach 0 [] fs rl nl3 (cur ++ Cs.norm P3) = M) (hk3 : cur.length + P3.length < gk) (hB3 : nl3 + P3.length ≤ B) (hT3 : fs.length + fs.flatten.length + cur.length + P3.length ≤ T) (hTb : T ≤ 8396800)
    (hE3 : Env wr N ea fa) (hq : cur.head? ≠ some 34)
    (hc : ∀ a w' k', k' < gk → (∃ lv f, a = fr2 N a0 n0 c0 lv .nilIface rl pb f ∧ R2 N s ea fpr M w rows0 (.slice a0 n0 c0) pb rl B T k' lv w') → K2 a w')
    (hb : ∀ a w', (∃ lv e8 f, a = fr2 N a0 n0 c0 lv e8 rl pb f ∧ RE N s ea fpr M w rows0 (.slice a0 n0 c0) pb rl B T e8 w') → K a w') :
    Code.wp Tryf.prog (sub (Tryf.f48.body.getD .skip) [1, 4, 1, 1, 1, 1, 1, 1, 1, 1, 1, 1, 1, 1, 1, 0, 2, 3, 2, 1, 1, 0]) (Exit.inBlock 3 (Exit.then K2 (Exit.inBlock 2 (Exit.then K (Exit.noGoto (bodyPost Tryf.prog Tryf.f48 Post)))))) (fr2 N a0 n0 c0 (.slice (some ⟨g3, o3, none⟩) cur.length c3) .nilIface rl pb f) wr := by
  conv => arg 2; dsimp only [Tryf.f48, Option.getD]
  simp only [sub, Nat.reduceEqDiff, if_true, if_false, Nat.one_ne_zero]
  have hE3' := hide hE3
  have hb' := hide hb
  have hc' := hide hc
  clear hb hc
  obtain ⟨i3, r3, n3, e3, bs3, pr3, lb3, lr3, off3, m3, xs3, hRx3⟩ := id hS3.rd
  obtain ⟨k0, k1, k2, k3, k4, k5, k7, k8, k9, k10, k11, k12, k13, k14⟩ := hRx3.csv.cells
  have f11 := hRx3.csv.frozen 11
  obtain ⟨bts, hbts⟩ : ∃ b, fs.flatten = b := ⟨_, rfl⟩
  obtain ⟨ix, hix⟩ : ∃ x, ends 0 fs = x := ⟨_, rfl⟩
  rw [hbts, hix] at hS3
  have hbl : bts.length = fs.flatten.length := by rw [hbts]
  have hT3b : fs.length + bts.length + cur.length + P3.length ≤ T := by rw [hbl]; exact hT3
  have hixl : ix.length = fs.length := by rw [← hix, ends_length]
  have hix' := hide hix
  have hbts' := hide hbts
  have hixl' := hide hixl
  have hLA3' := hide hLA3
  have hok3' := hide hok3
  have hS3' := hide hS3
  have hM3' := hide hM3
  have hq' := hide hq
  have hC3' := hide hRx3.csv
  have hcl : cur.length ≤ 8396800 := by omega
  obtain ⟨qc, hqc⟩ : ∃ qc, Lib.indexByte cur 44 = qc := ⟨_, rfl⟩
  have HC := hide (indexComma_any (some ⟨g3, o3, none⟩) cur.length c3 cur qc wr rfl hLA3.bytes (by simp) hqc)
  have hqc' := hide hqc
  clear hqc hix hbts hbl hT3 hixl hLA3 hok3 hS3 hM3 hE3 hRx3 k1 k2 k5 k7 k9 k10 k14 hq
  unfold fr2
  go_wp2_with fail
  refine (unhide HC).mono ?_
  rintro en w4 ⟨rfl, hw⟩
  replace hw := hw.symm
  subst hw
  clear HC
  have hcap3 := (unhide hLA3').cap
  go_upto_if 170 with fail
  go_cut [14] from 169 to 180 (fun fv wx => wx = wr ∧ ∃ fl : List UInt8, fv = .slice (some ⟨g3, o3, none⟩) fl.length c3 ∧ fl = cur.take fl.length ∧ ((∃ post, cur = fl ++ 44 :: post ∧ (44 : UInt8) ∉ fl ∧ qc = fl.length) ∨ ((44 : UInt8) ∉ cur ∧ qc = -1 ∧ fl = cur.take (cur.length - nlOf cur))))
  case first =>
    rcases idx_cases (unhide hqc') with ⟨pre, post, hcur, hpre, rfl⟩ | ⟨hno, rfl⟩
    · have hl : Hid (pre.length ≤ cur.length) := by rw [Hid, hcur]; simp
      have hl1 : (pre.length : Int) ≤ c3 := by have := unhide hl; omega
      have hr : Hid (∃ fl : List UInt8, Value.slice (some ⟨g3, o3, none⟩) pre.length c3 = .slice (some ⟨g3, o3, none⟩) fl.length c3 ∧ fl = cur.take fl.length ∧ ((∃ post, cur = fl ++ 44 :: post ∧ (44 : UInt8) ∉ fl ∧ (pre.length : Int) = fl.length) ∨ ((44 : UInt8) ∉ cur ∧ (pre.length : Int) = -1 ∧ fl = cur.take (cur.length - nlOf cur)))) :=
        ⟨pre, rfl, by rw [hcur]; simp, .inl ⟨post, hcur, hpre, rfl⟩⟩
      clear hcur hpre hqc'
      go_wp2
      go_meet
      case rel => exact ⟨rfl, unhide hr⟩
    · have HN := hide (lengthNL_any (some ⟨g3, o3, none⟩) c3 cur.length cur wr rfl (unhide hLA3').bytes (by omega))
      have hnl : nlOf cur ≤ cur.length := by
        unfold nlOf
        split
        · rename_i h0
          cases cur with
          | nil => simp at h0
          | cons _ _ => simp
        · omega
      have hr : Hid (∃ fl : List UInt8, Value.slice (some ⟨g3, o3, none⟩) (cur.length - nlOf cur) c3 = .slice (some ⟨g3, o3, none⟩) fl.length c3 ∧ fl = cur.take fl.length ∧ ((∃ post, cur = fl ++ 44 :: post ∧ (44 : UInt8) ∉ fl ∧ (-1 : Int) = fl.length) ∨ ((44 : UInt8) ∉ cur ∧ (-1 : Int) = -1 ∧ fl = cur.take (cur.length - nlOf cur)))) := by
        have hz : (cur.take (cur.length - nlOf cur)).length = cur.length - nlOf cur := by rw [List.length_take]; omega
        exact ⟨cur.take (cur.length - nlOf cur), by rw [hz], by rw [hz], .inr ⟨hno, rfl, rfl⟩⟩
      have hsub : ((cur.length : Int) - (nlOf cur : Int)) = ((cur.length - nlOf cur : Nat) : Int) := by omega
      have hl1 : ((cur.length - nlOf cur : Nat) : Int) ≤ c3 := by omega
      clear hno hqc'
      go_wp2_with fail
      refine (unhide HN).mono ?_
      rintro en w4 ⟨rfl, hw⟩
      replace hw := hw.symm
      subst hw
      clear HN
      go_wp2
      go_meet
      case rel => exact ⟨rfl, unhide hr⟩
  case rest =>
    obtain ⟨hw, fl, rfl, hflc, hfl⟩ := hcut
    replace hw := hw.symm
    subst hw
    have hfll : fl.length ≤ cur.length := by rw [hflc, List.length_take]; omega
    have hLAf : Hid (LineAt wr N raw3 g3 o3 c3 fl) := by rw [hflc]; exact (unhide hLA3').shorter _ hfll
    obtain ⟨q34, hq34⟩ : ∃ q, Lib.indexByte fl 34 = q := ⟨_, rfl⟩
    have H34 := hide (index_any (some ⟨g3, o3, none⟩) fl.length c3 fl 34 q34 wr rfl (unhide hLAf).bytes (by simp) hq34)
    have hfl' := hide hfl
    have hq34' := hide hq34
    have hflc' := hide hflc
    clear hq34 hfl hflc hqc'
    go_wp2_with fail
    refine (unhide H34).mono ?_
    rintro en w4 ⟨rfl, hw⟩
    replace hw := hw.symm
    subst hw
    clear H34
    rcases idx_cases (unhide hq34') with ⟨pre, post, hflp, hpre, rfl⟩ | ⟨hno34, rfl⟩
    · have hbad : Hid (M = ([], true)) := by
        have hc1 : cur = fl ++ cur.drop fl.length := by
          conv => lhs; rw [← List.take_append_drop fl.length cur]
          rw [← unhide hflc']
        have h34 : (34 : UInt8) ∈ fl := by rw [hflp]; simp
        have h44 : (44 : UInt8) ∉ fl := by
          rcases unhide hfl' with ⟨_, _, h, _⟩ | ⟨h, _, h2⟩
          · exact h
          · rw [h2]; exact fun e => h (List.mem_of_mem_take e)
        have h10 : (10 : UInt8) ∉ fl := by
          rcases unhide hfl' with ⟨post', h, _, _⟩ | ⟨_, _, h2⟩
          · exact (Cs.lnok_tail (by decide) (h ▸ unhide hok3')).1
          · rcases Cs.lnok_split (unhide hok3') with ⟨_, h3⟩ | ⟨h3, h4, _⟩
            · rw [h2]; exact h3
            · rw [h2, h3]; exact h4
        rw [Hid, ← unhide hM3']
        conv => lhs; rw [hc1, List.append_assoc]
        refine Cs.bare_bad ?_ h44 h10 h34
        rw [← List.append_assoc, ← hc1, List.head?_append]
        cases hcu : cur with
        | nil => rw [hc1] at hcu; simp at hcu; rw [hcu.1] at h34; simp at h34
        | cons x y => have := unhide hq'; rw [hcu] at this; simpa using this
      obtain ⟨v2, e2⟩ := (unhide hE3').glob.e2
      have hSal := hide (fun w2 (hb : Below wr.heap.size wr w2) => (unhide hS3').below hb)
      clear hflp hpre hflc' hq34'
      obtain ⟨pl, pc, hps, _⟩ := (unhide hS3').pos
      have p1 : wr.cell? ⟨pb, 1, none⟩ = some (.int .i64 pc) := by rw [cell_of_row wr _ _ _ _ _ hps]; rfl
      clear hps
      go_wp2
      go_region
      all_goals
        go_wp2
        refine unhide hb' _ _ (out_fr2 (.slice (some ⟨g3, o3, none⟩) cur.length c3) (.iface 98 (.pointer (some ⟨wr.heap.size, 0, none⟩))) (by rfl) ?_)
        refine ⟨P3, [], nl3, raw3, rec3, fi3, fp3, [], fs, ?_, ?_, .inr ⟨unhide hbad, _, rfl⟩⟩
        · rw [unhide hbts', unhide hix', List.append_nil]
          exact unhide hSal _ (by first | exact ((Below.refl _ wr).alloc (Nat.le_refl _) _) | exact bdrew ((Below.refl _ wr).alloc (Nat.le_refl _) _) | exact ((Below.refl _ wr).alloc (Nat.le_refl _) _).drew)
        · rw [unhide hbts']; simp; omega
    · have hno34' := hide hno34
      obtain ⟨i5, hi5, hz50, hz51, hz52⟩ := info_parts Tryf.info5
      have hmx : bts.length + fl.length ≤ maxLen := by unfold maxLen; omega
      have hbase3 : N + 4 ≤ wr.heap.size := (R0.bound (unhide hS3').rd).2
      have hrr := hide (unhide hS3').rrec
      obtain ⟨rA, rC, hrec3⟩ := own_shape' (unhide hrr)
      subst hrec3
      have hnw := hide (bytes_news (unhide hLAf).bytes)
      clear hno34 hq34'
      go_wp2_with (at_builtin; refine wpList_append_where _ rfl _ _ 29 rfl (N + 4) 5 i5 (.int .u8 0) 1 1 Tryf.underlying29 hi5 hz50 hz51 hz52 rfl (by decide) _ bts.length _ rfl (unhide hrr) ⟨g3, o3, none⟩ fl.length c3 (fl.map byteV) rfl (by simp) (unhide hnw) (byteV_one fl) hmx (by omega) hbase3 ?_)
      intro v4 w4 hown4 hgrow4 _ hwh4
      replace hown4 : w4.ownsRow (N + 4) 5 1 v4 (bts ++ fl).length ((bts ++ fl).map byteV) := by simpa using hown4
      obtain ⟨vA, vC, rfl⟩ := own_shape' hown4
      have hS4 := hide ((unhide hS3').app_rec fl hown4 (fr_grown hgrow4) (own_or hwh4))
      have hF4 : Hid (Fr (fun k => k = N + 3 ∨ (Value.slice rA bts.length rC).ownBlock = some k) wr (w4.setCell ⟨N + 3, 11, none⟩ (.slice vA (bts ++ fl).length vC))) := ((fr_grown hgrow4).mono fun _ _ h => .inr h).trans (fr_setCell _ _ _ _) (fun _ _ h => .inl h)
      have hLA4 := hide ((unhide hS3').line_keep (i := 1) rfl (by omega) (unhide hF4) (unhide hLA3'))
      have m11 : w4.cell? ⟨N + 3, 11, none⟩ = some (.slice rA bts.length rC) := (fr_grown hgrow4).cell k11 (fun e => by have := ((unhide hrr).lt _ e).1; have : N + 4 ≤ N + 3 := this; omega)
      have mf11 : w4.frozen? ⟨N + 3, 11, none⟩ = false := ((unhide hC3').fr (fr_grown hgrow4) (fun e => by have := ((unhide hrr).lt _ e).1; omega)).frozen 11
      have hap : (bts ++ fl).length = bts.length + fl.length := List.length_append
      rw [hap] at hS4 hF4 hLA4 ⊢
      clear hown4 hgrow4 hwh4 k0 k3 k4 k8 k11 k12 k13 f11 hF4
      go_wp2
      generalize w4.setCell ⟨N + 3, 11, none⟩ (.slice vA (bts.length + fl.length) vC) = W4 at hS4 hLA4 ⊢
      clear m11 mf11 hrr hnw hmx hbase3 hap hLAf hLA3' hS3'
      obtain ⟨fA, fC, hfi3⟩ := own_shape' (unhide hS4).rfi
      subst hfi3
      obtain ⟨i4, r4, n4, e4, bs4, pr4, lb4, lr4, off4, m4, xs4, hRx4⟩ := id (unhide hS4).rd
      obtain ⟨_, _, _, _, _, _, _, _, _, _, k11, k12, _, _⟩ := hRx4.csv.cells
      have hC4 := hide hRx4.csv
      have hr4l : Hid (∀ g, (Value.slice fA ix.length fC).ownBlock = some g → N + 4 ≤ g) := fun g hg => ((unhide hS4).rfi.lt g hg).1
      clear hRx4
      obtain ⟨j3, hj3, hj30, hj31, hj32⟩ := info_parts Tryf.info3
      have hixb : ix.length ≤ 8396800 := by have := unhide hixl'; omega
      have hmx3 : ix.length + 1 ≤ maxLen := by unfold maxLen; omega
      have hbase4 : N + 4 ≤ W4.heap.size := (R0.bound (unhide hS4).rd).2
      have hfl4 : bts.length + fl.length ≤ 8396800 := by omega
      have ha12 : ∀ o, (W4.alloc o).cell? ⟨N + 3, 12, none⟩ = some (.slice fA ix.length fC) := fun o => by rw [((Below.refl _ W4).alloc (Nat.le_refl _) o).cell (World.block_lt_of_cell? _ _ k12)]; exact k12
      have ha11 : ∀ o, (W4.alloc o).cell? ⟨N + 3, 11, none⟩ = some (.slice vA (bts.length + fl.length) vC) := fun o => by rw [((Below.refl _ W4).alloc (Nat.le_refl _) o).cell (World.block_lt_of_cell? _ _ k11)]; exact k11
      go_cut [] from 213 to 226 (fun wx => ∃ fi', St w rows0 wx N s P3 ea fpr nl3 raw3 (.slice vA (bts.length + fl.length) vC) fi' fp3 (.slice a0 n0 c0) pb [] (bts ++ fl) (ix ++ [bts.length + fl.length]) fs.length rl ∧ LineAt wx N raw3 g3 o3 c3 cur)
      case first =>
        go_region_law (refine step_append_where rfl (.tmp 217) (.tmp 223) 26 rfl (N + 4) 3 j3 (.int .i64 0) 1 8 Tryf.underlying26 hj3 hj30 hj31 hj32 rfl (by decide) (.slice fA ix.length fC) ix.length (ix.map intV) (by simp [Act.eval]) (by exact (unhide hS4).rfi.alloc _) ⟨W4.heap.size, 0, none⟩ 1 1 [intV (bts.length + fl.length)] (by simp [Act.eval]) rfl (by exact cell_one_new _ _ _) (by simp [Value.oneCell', intV]) hmx3 (by omega) (by simp; omega) ?_; intro v5 w5 hown5 hgrow5 _ hwh5; obtain ⟨xA, xC, rfl⟩ := own_shape' hown5; have hC5 := csv_grown (unhide hC4) hgrow5 (unhide hr4l); have m12 := hC5.cells.2.2.2.2.2.2.2.2.2.2.2.1; have mf12 := hC5.frozen 12; clear hC5)
        all_goals
          go_wp2
          go_meet
          case rel =>
            refine ⟨_, (unhide hS4).app_fi (bts.length + fl.length) (by simpa using hown5) (fr_grownA hgrow5) (own_orA hwh5), ?_⟩
            exact (unhide hS4).line_keep (i := 2) rfl (by omega) ((fr_grownA hgrow5).mono (fun _ _ h => .inr h) |>.trans (fr_setCell _ _ _ _) (fun _ _ h => .inl h)) (unhide hLA4)
      case rest =>
        obtain ⟨fi5, hS5, hLA5⟩ := hcut
        have hS5' := hide hS5
        have hLA5' := hide hLA5
        clear hS5 hLA5 ha11 ha12 k11 k12 hS4 hLA4 hC4 hr4l hmx3 hbase4
        obtain ⟨cells, hp1, hp2⟩ := (unhide hS5').rfp
        obtain ⟨pA, pC, hfp3⟩ := own_shapeN hp1
        subst hfp3
        obtain ⟨pl, pc, hps, hpl⟩ := (unhide hS5').pos
        obtain ⟨i5', r5, n5, e5, bs5, pr5, lb5, lr5, off5, m5, xs5, hRx5⟩ := id (unhide hS5').rd
        obtain ⟨k0, _, _, _, _, _, _, _, _, _, _, _, k13, _⟩ := hRx5.csv.cells
        have hC5' := hide hRx5.csv
        have p0 : wc.cell? ⟨pb, 0, none⟩ = some (.int .i64 pl) := by rw [cell_of_row wc _ _ _ _ _ hps]; rfl
        have p1 : wc.cell? ⟨pb, 1, none⟩ = some (.int .i64 pc) := by rw [cell_of_row wc _ _ _ _ _ hps]; rfl
        have hr5l : Hid (∀ g, (Value.slice pA fs.length pC).ownBlock = some g → N + 4 ≤ g) := fun g hg => (hp1.lt g hg).1
        have hp1' := hide hp1
        have hp2' := hide hp2
        have hpl' := hide hpl
        have hcells : Hid (cells.length = fs.length * 2) := hp1.1
        have hps' := hide hps
        obtain ⟨j8, hj8, hj80, hj81, hj82⟩ := info_parts Tryf.info82
        have hmx8 : fs.length + 1 ≤ maxLen := by unfold maxLen; omega
        have hbase5 : N + 4 ≤ wc.heap.size := (R0.bound (unhide hS5').rd).2
        have ha13 : ∀ o, (wc.alloc o).cell? ⟨N + 3, 13, none⟩ = some (.slice pA fs.length pC) := fun o => by rw [((Below.refl _ wc).alloc (Nat.le_refl _) o).cell (World.block_lt_of_cell? _ _ k13)]; exact k13
        clear hRx5 hp1 hp2 hpl hps
        go_wp2
        go_cut [] from 227 to 236 (fun wx => ∃ fp', St w rows0 wx N s P3 ea fpr nl3 raw3 (.slice vA (bts.length + fl.length) vC) fi5 fp' (.slice a0 n0 c0) pb [] (bts ++ fl) (ix ++ [bts.length + fl.length]) (fs.length + 1) rl ∧ LineAt wx N raw3 g3 o3 c3 cur)
        case first =>
          go_region_law (refine step_append_where rfl (.tmp 231) (.tmp 233) 71 rfl (N + 4) 82 j8 (.agg #[.int .i64 0, .int .i64 0]) 2 16 Tryf.underlying71 hj8 hj80 hj81 hj82 rfl (by decide) (.slice pA fs.length pC) fs.length cells (by simp [Act.eval]) (by exact (unhide hp1').alloc _) ⟨wc.heap.size, 0, none⟩ 1 1 [.int .i64 pl, .int .i64 pc] (by simp [Act.eval]) rfl (by exact cell_two_new _ _ _ _) (by simp [Value.oneCell']) hmx8 (by omega) (by simp; omega) ?_; intro v6 w6 hown6 hgrow6 _ hwh6; obtain ⟨yA, yC, rfl⟩ := own_shapeN hown6; have hC6 := csv_grown (unhide hC5') hgrow6 (unhide hr5l); have m13 := hC6.cells.2.2.2.2.2.2.2.2.2.2.2.2.1; have mf13 := hC6.frozen 13; clear hC6)
          all_goals
            go_wp2
            go_meet
            case rel =>
              refine ⟨_, (unhide hS5').app_fp pl pc (unhide hp2') (unhide hcells) (fun h0 => unhide hpl' trivial h0) (by simpa using hown6) (fr_grownA hgrow6) (own_orA hwh6), ?_⟩
              exact (unhide hS5').line_keep (i := 3) rfl (by omega) ((fr_grownA hgrow6).mono (fun _ _ h => .inr h) |>.trans (fr_setCell _ _ _ _) (fun _ _ h => .inl h)) (unhide hLA5')
        case rest =>
          obtain ⟨fp6, hS6, hLA6⟩ := hcut
          have hS6' := hide hS6
          have hLA6' := hide hLA6
          obtain ⟨pl6, pc6, hps6, _⟩ := hS6.pos
          have p1 : wc.cell? ⟨pb, 1, none⟩ = some (.int .i64 pc6) := by rw [cell_of_row wc _ _ _ _ _ hps6]; rfl
          have pf1 : wc.frozen? ⟨pb, 1, none⟩ = false := frozen_of_row wc _ _ _ _ hps6
          clear hS6 hLA6 hps6 ha13 k13 k0 p0 hps' hcells hpl' hp2' hp1' hr5l hC5' hmx8 hbase5
          obtain ⟨he1, he2⟩ := ends_snoc (fl := fl) (unhide hbts') (unhide hix')
          have he1' := hide he1
          have he2' := hide he2
          clear he1 he2
          rcases unhide hfl' with ⟨post, hcur, h44, rfl⟩ | ⟨h44, rfl, hfle⟩
          · obtain ⟨h10, hokp⟩ := Cs.lnok_tail (by decide) (hcur ▸ unhide hok3')
            have hMn : Hid (Cs.mach 0 [] (fs ++ [fl]) rl nl3 (post ++ Cs.norm P3) = M) := by
              rw [Hid, ← unhide hM3', hcur]
              exact (Cs.bare_comma (by rw [← hcur]; exact unhide hq') h44 h10 (unhide hno34')).symm
            have hlen : cur.length = fl.length + 1 + post.length := by rw [hcur]; simp; omega
            obtain ⟨o7, ho7, hLA7⟩ := (unhide hLA6').drop (fl.length + 1) (by omega)
            have hdr : cur.drop (fl.length + 1) = post := by rw [hcur]; simp
            rw [hdr] at hLA7
            have hLA7' := hide hLA7
            have hokp' := hide hokp
            have hcI : ((fl.length + 1 : Nat) : Int) ≤ cur.length := by omega
            have hsubl : cur.length - (fl.length + 1) = post.length := by omega
            have hlen' := hide hlen
            clear hcur h44 h10 hokp hLA7 hlen hdr
            go_wp2
            refine unhide hc' _ _ (post.length + P3.length + 1) (by have := unhide hlen'; omega) (start_fr2 (.slice (some ⟨g3, o7, none⟩) post.length (c3 - (fl.length + 1))) (by rfl) ?_)
            refine ⟨P3, post, nl3, raw3, .slice vA (bts.length + fl.length) vC, fi5, fp6, g3, o7, c3 - (fl.length + 1), fs ++ [fl], rfl, ?_, unhide hokp', ?_, unhide hMn, by omega, hB3, ?_⟩
            · exact (unhide hS6').line_keep (i := 5) rfl (by omega) ((fr_setCell _ _ _ _).mono (fun k _ e => .inr (by rw [e]; rfl))) (unhide hLA7')
            · rw [unhide he1', unhide he2', List.length_append]
              exact (unhide hS6').setpos 1 _ (.inl rfl)
            · rw [unhide he1', List.length_append, List.length_append]
              have := unhide hlen'
              simp; omega
          · have hok := Cs.lnok_split (unhide hok3')
            rw [← hfle] at hok
            have h44' : (44 : UInt8) ∉ fl := by rw [hfle]; exact fun e => h44 (List.mem_of_mem_take e)
            have hMn : Hid (M = ((fs ++ [fl], rl) :: (Cs.mach 4 [] [] 0 (nl3 + 1) (Cs.norm P3)).1, (Cs.mach 4 [] [] 0 (nl3 + 1) (Cs.norm P3)).2)) := by
              rw [Hid, ← unhide hM3']
              rcases hok with ⟨h1, h2⟩ | ⟨h1, h2, h3⟩
              · rw [h1]
                exact Cs.bare_lf (by rw [← h1]; exact unhide hq') h44' h2 (unhide hno34')
              · rw [← h1, h3]
                exact Cs.bare_nil (by rw [h1]; exact unhide hq') h44' (by rw [h1]; exact h2) (unhide hno34')
            clear hok hfle h44 h44'
            go_wp2
            refine unhide hb' _ _ (out_fr2 (.slice (some ⟨g3, o3, none⟩) cur.length c3) .nilIface (by rfl) ?_)
            refine ⟨P3, [], nl3, raw3, .slice vA (bts.length + fl.length) vC, fi5, fp6, [], fs ++ [fl], ?_, ?_, .inl ⟨rfl, rfl, by simp, hB3, unhide hMn⟩⟩
            · rw [unhide he1', unhide he2', List.length_append, List.append_nil]
              exact unhide hS6'
            · rw [unhide he1', List.length_append, List.length_append]
              simp; omega
end Go.Proofs.Qxb6612546aFmt
