import Derived.Test.Qxb6614069aDoorBio3
namespace Go.Proofs.Qxb6614069aDoor
open Go.RowKit

/-- What (*bufio.Writer).Write leaves. -/
def WtP (w : World) (X R b : Nat) (v : Value) (T : List UInt8) (e : Ending) (w' : World) : Prop :=
  (∃ q, e = .returned q) ∧ ∃ v' O' Pd', O' ++ Pd' = T ∧ Wr w' X R b v' O' Pd' ∧ Kept (WrS X R b v) w w' ∧ Went w v v'

/-- Two steps of a writer, one behind the other. -/
theorem WrS_trans {w w1 w2 : World} {X R b : Nat} {v v1 : Value} (h : Kept (WrS X R b v) w w1) (hw : Went w v v1) (k : Kept (WrS X R b v1) w1 w2) : Kept (WrS X R b v) w w2 :=
  h.trans k (fun j hj hlt => by
    rcases hj with e | e | e | e
    · exact .inl e
    · exact .inr (.inl e)
    · exact .inr (.inr (.inl e))
    · rcases hw with e2 | ⟨i, e2, hi⟩
      · exact .inr (.inr (.inr (e2 ▸ e)))
      · rw [e2] at e; cases e; omega)

theorem Kept_XR {w w' : World} {X R b : Nat} {v : Value} (h : Kept (fun k => k = X ∨ k = R) w w') : Kept (WrS X R b v) w w' :=
  h.mono (fun k hk _ => by rcases hk with e | e; exact .inl e; exact .inr (.inl e))

theorem Kept.sub {S : Nat → Prop} {w w' : World} (h : Kept (fun _ => False) w w') : Kept S w w' := h.mono (fun _ hk _ => hk.elim)

/-- The source of a copy stays where the writer's steps don't reach. -/
theorem src_kept {S : Nat → Prop} {w w' : World} {a o : Nat} {P : List UInt8} (h : ∀ j u, (P.map byteV)[j]? = some u → w.cell? ((⟨a, o, none⟩ : Addr).add j) = some u) (hk : Kept S w w') (ha : a < w.heap.size) (hS : ¬ S a) :
    ∀ j u, (P.map byteV)[j]? = some u → w'.cell? ((⟨a, o, none⟩ : Addr).add j) = some u := fun j u hj => by
  have hbl : ((⟨a, o, none⟩ : Addr).add j).block = a := blk_add _ _ _
  rw [World.cell?_of_block (w := w) (by rw [hbl]; exact hk.block a ha hS)]
  exact h j u hj

theorem src_drop {w : World} {a o : Nat} {P : List UInt8} (q : Nat) (h : ∀ j u, (P.map byteV)[j]? = some u → w.cell? ((⟨a, o, none⟩ : Addr).add j) = some u) :
    ∀ j u, ((P.drop q).map byteV)[j]? = some u → w.cell? ((⟨a, o + q, none⟩ : Addr).add j) = some u := fun j u hj => by
  have h1 := h (q + j) u (by rw [List.map_drop, List.getElem?_drop] at hj; exact hj)
  rw [Lib.addr_add] at h1 ⊢
  rw [show o + q + j = o + (q + j) by omega]
  exact h1

theorem src_take {w : World} {ad : Addr} {P : List UInt8} (q : Nat) (h : ∀ j u, (P.map byteV)[j]? = some u → w.cell? (ad.add j) = some u) :
    ∀ j u, ((P.take q).map byteV)[j]? = some u → w.cell? (ad.add j) = some u := fun j u hj => h j u (by
  rw [List.map_take, List.getElem?_take] at hj
  split at hj
  · exact hj
  · cases hj)

set_option maxRecDepth 100000 in
set_option maxHeartbeats 8000000 in
theorem write_any (w : World) (X R b : Nat) (v : Value) (O Pd P : List UInt8) (h : Wr w X R b v O Pd) (a o c : Nat) (hP : 1 ≤ P.length) (hP4 : P.length ≤ 4096) (hc : P.length ≤ c) (hcm : c ≤ maxLen) (ha : a < w.heap.size) (haS : ¬ WrS X R b v a)
    (hsrc : ∀ j u, (P.map byteV)[j]? = some u → w.cell? ((⟨a, o, none⟩ : Addr).add j) = some u) (hlim : O.length + Pd.length + P.length ≤ 1099511627776) :
    Calls Tryd.prog 18 #[.pointer (some ⟨X, 0, none⟩), .slice (some ⟨a, o, none⟩) P.length c] w (WtP w X R b v (O ++ Pd ++ P)) := by
  have h' := hide h
  have hsrc' := hide hsrc
  have haS' := hide haS
  unfold maxLen at hcm
  obtain ⟨T, hTd⟩ : ∃ T, T = O ++ Pd ++ P := ⟨_, rfl⟩
  have hTl : T.length ≤ 1099511627776 := by rw [hTd]; simp; omega
  rw [← hTd]
  obtain ⟨n, hn⟩ : ∃ n, n = P.length := ⟨_, rfl⟩
  have hT0 : Hid (O ++ Pd ++ P.drop 0 = T) := by rw [Hid, hTd, List.drop_zero]
  have hn' := hide hn
  rw [← hn] at hP hP4 hc ⊢
  clear h hsrc haS hlim hTd hn
  go_enter Tryd.func18, Tryd.ntmps18
  go_wp2
  go_loopw [1, 4] (fun pv nv wx => ∃ (q : Nat) (v' : Value) (O' Pd' : List UInt8), q < n ∧ pv = .slice (some ⟨a, o + q, none⟩) (n - q) (c - q) ∧ nv = .int .i64 q ∧ Wr wx X R b v' O' Pd' ∧ O' ++ Pd' ++ P.drop q = T ∧ Kept (WrS X R b v) w wx ∧ Went w v v') (fun _ _ wx => (RowKit.intOf ((wx.cell? ⟨X, 2, none⟩).getD undef)).toNat)
  case atStart => exact ⟨0, v, O, Pd, by omega, by simp, rfl, unhide h', unhide hT0, Kept.refl _ _, Went.refl _ _⟩
  case round =>
    obtain ⟨q, v', O', Pd', hq, rfl, rfl, hW, hTq, hK, hG⟩ := hrel
    clear hT0 h'
    obtain ⟨cur, r1, r2, r3⟩ := hW.r
    have hPn := hW.n
    obtain ⟨m, hm⟩ : ∃ m, m = Pd'.length := ⟨_, rfl⟩
    obtain ⟨n', hn2⟩ : ∃ n', n' = n - q := ⟨_, rfl⟩
    have hdl : (P.drop q).length = n' := by rw [List.length_drop, ← unhide hn', hn2]
    have hsz := hK.size
    have haS2 : ¬ WrS X R b v' a := by
      rintro (e | e | e | e)
      · exact unhide haS' (.inl e)
      · exact unhide haS' (.inr (.inl e))
      · exact unhide haS' (.inr (.inr (.inl e)))
      · exact hG.ne ha (fun e2 => unhide haS' (.inr (.inr (.inr e2)))) e
    have haR : a ≠ R := fun e => haS2 (.inr (.inl e))
    have hsq := hide (src_drop q (src_kept (unhide hsrc') hK ha (unhide haS')))
    have HA : Hid (Calls Tryd.prog 27 #[.pointer (some ⟨X, 0, none⟩)] wr fun e w' => e = .returned (.int .i64 ((4096 - m : Nat) : Int)) ∧ ∃ k, w' = wr.drewN k) := by
      rw [hm]; exact avail_any wr X R b v' O' Pd' hW
    obtain ⟨av, hav⟩ : ∃ av, av = 4096 - m := ⟨_, rfl⟩
    rw [← hav] at HA
    have hW' := hide hW
    have hK' := hide hK
    have hG' := hide hG
    have hTq' := hide hTq
    obtain ⟨c0, c1, c2, c3⟩ := hW.cells
    rw [← hm] at c2
    have r1' := hide r1
    rw [← hn2]
    have hn'4 : n' ≤ 4096 := by omega
    have hn'1 : 1 ≤ n' := by omega
    have hcc : n' ≤ c - q := by omega
    obtain ⟨cq, hcq⟩ : ∃ cq, cq = c - q := ⟨_, rfl⟩
    obtain ⟨oq, hoq⟩ : ∃ oq, oq = o + q := ⟨_, rfl⟩
    rw [← hcq] at hcc ⊢
    rw [← hoq] at hsq ⊢
    have hcqm : cq ≤ 9223372036854775807 := by omega
    have hqn : q + n' = n := by omega
    have hq4 : q ≤ 4096 := by omega
    rw [← hm] at hPn
    rw [← hm] at r3
    have hmI : (m : Int) ≤ 4096 := by omega
    have hmI0 : (0 : Int) ≤ m := by omega
    have hm' := hide hm
    have hoq' := hide hoq
    have hcq' := hide hcq
    have hdl' := hide hdl
    have hn2' := hide hn2
    clear hW hK hG hTq r1 hm hcq hoq hn2 hdl hsz c3
    by_cases hfit : n' ≤ av
    · -- it fits
      obtain ⟨cs, hcs⟩ : ∃ cs, cs = (P.drop q).map byteV := ⟨_, rfl⟩
      have hcl : cs.length = n' := by rw [hcs, List.length_map, unhide hdl']
      have hone : Hid (∀ u ∈ cs, u.oneCell' = true) := by rw [hcs]; exact byteV_one _
      rw [← hcs] at hsq
      have hfin : Hid (∀ w1, w1.heap[R]? = some (.cells (splice cur m cs).toArray 5 (0, 0)) → Kept (fun k => k = R) wr w1 → WtP w X R b v T (.returned (.tuple #[.int .i64 ((q : Int) + (n' : Int)), .nilIface])) (w1.setCell ⟨X, 2, none⟩ (.int .i64 ((m : Int) + (n' : Int))))) := fun w1 k1 k2 => by
        have hmm := unhide hm'
        rw [hmm] at k1 r3
        rw [hcs] at k1
        have h3 := (unhide hW').put r2 r3 (P.drop q) (by rw [unhide hdl', ← hmm]; omega) k1 k2
        rw [unhide hdl', ← hmm] at h3
        refine ⟨⟨_, rfl⟩, v', O', Pd' ++ P.drop q, by rw [← List.append_assoc]; exact unhide hTq', ?_, ?_, unhide hG'⟩
        · have := h3.1; rw [Int.natCast_add] at this; exact this
        · have := h3.2; rw [Int.natCast_add] at this; exact WrS_trans (unhide hK') (unhide hG') (Kept_XR this)
      have hcs' := hide hcs
      have hfI : ¬ ((av : Int) < (n' : Int)) := by omega
      have hm4 : m < 4096 := by omega
      have hne : ¬ 4096 = m := by omega
      go_wp2_with fail
      refine (unhide HA).mono ?_
      rintro e w' ⟨rfl, k2, hw⟩
      subst hw
      have hmin : Hid (cs.length = Nat.min n' (4096 - m)) := by
        rw [Hid, hcl]; exact (Nat.min_eq_left (by omega)).symm
      have hft : Hid (m + cs.length ≤ cur.length) := by rw [Hid, hcl, r2]; omega
      clear hcs
      go_upto_region 12 with fail
      go_cut [7] from 72 to 82 (fun nv wx => nv = .int .i64 n' ∧ wx.heap[R]? = some (.cells (splice cur m cs).toArray 5 (0, 0)) ∧ Kept (fun j => j = R) wr wx)
      case first =>
        go_region_law (refine step_copy rfl (.tmp 80) (.tmp 81) rfl _ _ (4096 - m) (4096 - m) n' cq (by simp [Act.eval, Act.put] <;> rfl) (by simp [Act.eval, Act.put] <;> rfl) R m cur (by exact unhide r1') cs (unhide hmin) (fun _ => ⟨rfl, _, rfl, by exact unhide hsq⟩) (unhide hft) (unhide hone) ?_; intro w2 hg2 hf2)
        all_goals
          have hf2' : Hid (Kept (fun j => j = R) wr w2) := ⟨(unhide hf2).os, (unhide hf2).tape, (unhide hf2).output, (unhide hf2).size, (unhide hf2).block⟩
          clear hf2
          go_wp2
          go_meet
          case rel => exact ⟨rfl, unhide hg2, unhide hf2'⟩
      case rest =>
        obtain ⟨rfl, k1, k2⟩ := hcut
        have hx3 := k2.heap (unhide hW').x (unhide hW').xr
        rw [← unhide hm'] at hx3
        have d2 : wc.cell? ⟨X, 2, none⟩ = some (.int .i64 m) := by rw [Lib.cell_of_heap hx3]; rfl
        have f2 : wc.frozen? ⟨X, 2, none⟩ = false := Lib.frozen_of_heap hx3 2
        have hfin2 := hide (unhide hfin wc k1 k2)
        clear k1 k2 hx3 c0 c1 c2 HA hW' r1' hK' hG' hTq' hfin hsq hmin hft hsrc'
        go_wp2
        go_ret2
        exact unhide hfin2
    · -- the buffer runs full: fill it, flush it, go round again
      have hfI : (av : Int) < (n' : Int) := by omega
      have hm1 : 1 ≤ m := by omega
      have hm0 : ¬ ((m : Int) = 0) := by omega
      have hmav : (m : Int) + (av : Int) = 4096 := by omega
      have hmavN : m + av = 4096 := by omega
      obtain ⟨cs, hcs⟩ : ∃ cs, cs = ((P.drop q).take av).map byteV := ⟨_, rfl⟩
      have htl : Hid (((P.drop q).take av).length = av) := by rw [Hid, List.length_take, unhide hdl']; omega
      have HBd : Hid (∀ k, Calls Tryd.prog 28 #[.pointer (some ⟨X, 0, none⟩)] (wr.drewN k) fun e w' => e = .returned (.int .i64 m) ∧ w' = wr.drewN k) := fun k => by
        rw [unhide hm']; exact buffered_any (wr.drewN k) X R b v' O' Pd' ((unhide hW').drew k)
      have hcl : cs.length = av := by rw [hcs, List.length_map, unhide htl]
      have hone : Hid (∀ u ∈ cs, u.oneCell' = true) := by rw [hcs]; exact byteV_one _
      have hmin : Hid (cs.length = Nat.min n' (4096 - m)) := by
        rw [Hid, hcl, hav]; exact (Nat.min_eq_right (by omega)).symm
      have hft : Hid (m + cs.length ≤ cur.length) := by rw [Hid, hcl, r2]; omega
      have hst := hide (src_take av (unhide hsq))
      rw [← hcs] at hst
      have hput : Hid (∀ w1, w1.heap[R]? = some (.cells (splice cur m cs).toArray 5 (0, 0)) → Kept (fun k => k = R) wr w1 → Wr (w1.setCell ⟨X, 2, none⟩ (.int .i64 4096)) X R b v' O' (Pd' ++ (P.drop q).take av) ∧ Kept (WrS X R b v) w (w1.setCell ⟨X, 2, none⟩ (.int .i64 4096))) := fun w1 k1 k2 => by
        have hmm := unhide hm'
        rw [hmm] at k1 r3
        rw [hcs] at k1
        have h3 := (unhide hW').put r2 r3 ((P.drop q).take av) (by rw [unhide htl, ← hmm]; omega) k1 k2
        rw [unhide htl, ← hmm, hmavN] at h3
        exact ⟨h3.1, WrS_trans (unhide hK') (unhide hG') (Kept_XR h3.2)⟩
      have hlimW : Hid (O'.length + (Pd' ++ (P.drop q).take av).length ≤ 1099511627776) := by
        have h1 := congrArg List.length (unhide hTq')
        simp only [List.length_append, unhide hdl'] at h1
        rw [Hid, List.length_append, unhide htl]
        omega
      have hav' := hide hav
      have hcs' := hide hcs
      clear hav hcs
      go_wp2_with fail
      refine (unhide HA).mono ?_
      rintro e w' ⟨rfl, k2, hw⟩
      subst hw
      go_wp2_with fail
      refine (unhide HBd k2).mono ?_
      rintro e w' ⟨rfl, hw⟩
      replace hw := hw.symm
      subst hw
      go_upto_region 5 with fail
      go_cut [6] from 8 to 45 (fun nv wx => nv = .int .i64 av ∧ wx.heap[R]? = some (.cells (splice cur m cs).toArray 5 (0, 0)) ∧ Kept (fun j => j = R) wr wx)
      case first =>
        by_cases hfull : m = 4096
        · subst hfull
          go_region_law (refine step_copy rfl (.tmp 43) (.tmp 44) rfl _ _ (4096 - 4096) (4096 - 4096) n' cq (by simp [Act.eval, Act.put] <;> rfl) (by simp [Act.eval, Act.put] <;> rfl) R 4096 cur (by exact unhide r1') cs (unhide hmin) (fun hp => absurd hp (by rw [hcl]; omega)) (unhide hft) (unhide hone) ?_; intro w2 hg2 hf2)
          all_goals
            have hf2' : Hid (Kept (fun j => j = R) wr w2) := ⟨(unhide hf2).os, (unhide hf2).tape, (unhide hf2).output, (unhide hf2).size, (unhide hf2).block⟩
            clear hf2
            go_wp2
            go_meet
            case rel => exact ⟨rfl, unhide hg2, unhide hf2'⟩
        · have hne : ¬ 4096 = m := by omega
          go_region_law (refine step_copy rfl (.tmp 43) (.tmp 44) rfl _ _ (4096 - m) (4096 - m) n' cq (by simp [Act.eval, Act.put] <;> rfl) (by simp [Act.eval, Act.put] <;> rfl) R m cur (by exact unhide r1') cs (unhide hmin) (fun _ => ⟨rfl, _, rfl, by exact unhide hst⟩) (unhide hft) (unhide hone) ?_; intro w2 hg2 hf2)
          all_goals
            have hf2' : Hid (Kept (fun j => j = R) wr w2) := ⟨(unhide hf2).os, (unhide hf2).tape, (unhide hf2).output, (unhide hf2).size, (unhide hf2).block⟩
            clear hf2
            go_wp2
            go_meet
            case rel => exact ⟨rfl, unhide hg2, unhide hf2'⟩
      case rest =>
        obtain ⟨rfl, k1, k2⟩ := hcut
        have hx3 := k2.heap (unhide hW').x (unhide hW').xr
        rw [← unhide hm'] at hx3
        have d2 : wc.cell? ⟨X, 2, none⟩ = some (.int .i64 m) := by rw [Lib.cell_of_heap hx3]; rfl
        have f2 : wc.frozen? ⟨X, 2, none⟩ = false := Lib.frozen_of_heap hx3 2
        obtain ⟨p1, p2⟩ := unhide hput wc k1 k2
        have HFl := hide (flush_any _ X R b v' O' _ p1 (unhide hlimW))
        have p2' := hide p2
        have hnc : ¬ cq = av := by omega
        have hc2 := hide c2
        have hav4 : av ≤ 4096 := by omega
        clear k1 k2 hx3 c0 c1 c2 HA HBd p1 p2 hput hlimW hmin hft hst hsq r1' hsrc'
        go_wp2_with fail
        refine (unhide HFl).mono ?_
        rintro e w5 ⟨rfl, v5, j1, j2, j3⟩
        have j1' := hide j1
        have hK5 := hide (WrS_trans (unhide p2') (unhide hG') j2)
        have hG5 := hide (Went.trans (unhide p2').size (unhide hG') j3)
        clear j1 j2 j3 HFl p2' hG' hK' hW'
        go_wp2
        go_roundw
        case rel =>
          refine ⟨q + av, v5, O' ++ (Pd' ++ (P.drop q).take av), [], by omega, ?_, by rw [Int.natCast_add], unhide j1', ?_, unhide hK5, ?_⟩
          · have e1 := unhide hn2'
            have e2 := unhide hcq'
            have e3 := unhide hoq'
            rw [show n - (q + av) = n' - av by omega, show c - (q + av) = cq - av by omega, show o + (q + av) = oq + av by omega]
          · rw [List.append_nil, ← List.drop_drop, ← List.append_assoc, List.append_assoc (O' ++ Pd'), List.take_append_drop]
            exact unhide hTq'
          · exact unhide hG5
        case measure =>
          have e5 := (unhide j1').cells.2.2.1
          have e6 := unhide hc2
          simp [e5, e6, RowKit.intOf]
          omega

end Go.Proofs.Qxb6614069aDoor
