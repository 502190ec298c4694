import Derived.Test.Qxb6614069aDoorTr
namespace Go.Proofs.Qxb6614069aDoor
open Go.RowKit Go.Lib

/-- A contact's row. -/
def rowText (st : Int) (a b d : Nat) : List UInt8 := Lib.itoa st ++ [44] ++ Lib.decDigits a ++ [44] ++ Lib.decDigits b ++ [44] ++ fl d ++ [10]

theorem WrS.lt {w : World} {X R b k : Nat} {v : Value} {O Pd : List UInt8} (h : Wr w X R b v O Pd) (hk : WrS X R b v k) : k < w.heap.size := by
  obtain ⟨h1, h2, h3⟩ := h.lt
  rcases hk with e | e | e | e
  · omega
  · omega
  · omega
  · exact (h.bf.own.lt k e).2

theorem tw_mid {base : Nat} {w w5 : World} {C X R b : Nat} {v rv rv0 rv' : Value} {O Pd L : List UInt8} (h : CWd base w C X R b v rv O Pd) (o : Obj) (hrv : rv0.ownBlock = rv.ownBlock) (hA : AppR (w.alloc o) rv0 L rv' w5) :
    Wr w5 X R b v O Pd ∧ w5.heap[C]? = some (.cells #[.pointer (some ⟨X, 0, none⟩), rv] 55 (0, 0)) ∧ w5.heap[w.heap.size]? = some o ∧ (∀ k, rv'.ownBlock = some k → ¬ WrS X R b v k ∧ k ≠ C ∧ k < w5.heap.size ∧ base ≤ k) ∧ Below base w w5 := by
  have hC := Lib.lt_of_heap h.c
  have hs := size_alloc' w o
  have hK0 := Kept.grown hA.grown
  have hK : Kept (fun k => rv.ownBlock = some k) w w5 := (Kept.alloc _ w o).trans hK0 (fun j hj _ => by rw [← hrv]; exact hj)
  refine ⟨h.wr.keptS hK (fun e => (h.rS _ e).1 (.inl rfl)) (fun e => (h.rS _ e).1 (.inr (.inl rfl))) (fun e => (h.rS _ e).1 (.inr (.inr (.inl rfl)))) (fun k hk e => (h.rS _ e).1 (.inr (.inr (.inr hk)))), hK.heap h.c (fun e => (h.rS _ e).2.1 rfl), ?_, fun k hk => ?_, ?_⟩
  · refine hK0.heap (heap_alloc_new w o) (fun e => ?_)
    rw [hrv] at e
    have := (h.rS _ e).2.2.1
    omega
  · have hlt := hA.lt k hk
    rcases hA.at_ with e | ⟨j, e, hj⟩
    · rw [e, hrv] at hk
      exact ⟨(h.rS _ hk).1, (h.rS _ hk).2.1, hlt, (h.rS _ hk).2.2.2⟩
    · rw [e] at hk
      cases hk
      rw [hs] at hj
      refine ⟨fun e2 => ?_, by omega, hlt, by have := h.lo.1; omega⟩
      have := WrS.lt h.wr e2
      omega
  · exact hK.below (by have := h.lo.1; omega) (fun k hk => (h.rS _ hk).2.2.2)

theorem tw_last {base : Nat} {w w5 w6 : World} {C X R b : Nat} {v rv rv0 rv' v' : Value} {O Pd L O' Pd' : List UInt8} (h : CWd base w C X R b v rv O Pd) (o : Obj) (hrv : rv0.ownBlock = rv.ownBlock) (hA : AppR (w.alloc o) rv0 L rv' w5) (hL : 1 ≤ L.length)
    (hW : Wr w6 X R b v' O' Pd') (hK : Kept (WrS X R b v) w5 w6) (hG : Went w5 v v') :
    CWd base (w6.setCell ⟨C, 1, none⟩ rv') C X R b v' rv' O' Pd' ∧ Below base w (w6.setCell ⟨C, 1, none⟩ rv') ∧ w.heap.size < (w6.setCell ⟨C, 1, none⟩ rv').heap.size := by
  obtain ⟨m1, m2, -, m3, m4⟩ := tw_mid h o hrv hA
  have hC := Lib.lt_of_heap m2
  have hc6 := hK.heap m2 h.cS
  have hKc := Kept.setCell w6 ⟨C, 1, none⟩ rv'
  have hS' : ∀ k, k < w5.heap.size → ¬ WrS X R b v k → ¬ WrS X R b v' k := by
    rintro k hk hn (e | e | e | e)
    · exact hn (.inl e)
    · exact hn (.inr (.inl e))
    · exact hn (.inr (.inr (.inl e)))
    · exact hG.ne hk (fun e2 => hn (.inr (.inr (.inr e2)))) e
  have cS' := hS' C hC h.cS
  have hsz : w5.heap.size ≤ w6.heap.size := hK.size
  have hszs : (w6.setCell ⟨C, 1, none⟩ rv').heap.size = w6.heap.size := by simp [World.setCell]
  have hw1 := hA.grown.size
  rw [size_alloc'] at hw1
  refine ⟨⟨hW.keptS hKc (fun e => cS' (.inl (Eq.symm e))) (fun e => cS' (.inr (.inl (Eq.symm e)))) (fun e => cS' (.inr (.inr (.inl (Eq.symm e))))) (fun k hk e => cS' (.inr (.inr (.inr (by rw [hk, show k = C from e]))))), Lib.heap_setCell_same (i := 1) hc6 rv', .inr ⟨L, hL, ?_⟩, cS', fun k hk => ?_, ?_⟩, ?_, by omega⟩
  · exact ownsRow_keptS (ownsRow_keptS hA.own hK (fun k hk => (m3 k hk).1)) hKc (fun k hk => (m3 k hk).2.1)
  · obtain ⟨n1, n2, n3, n4⟩ := m3 k hk
    exact ⟨hS' k n3 n1, n2, by omega, n4⟩
  · refine ⟨h.lo.1, fun k hk => ?_⟩
    rcases hk with e | e | e | e
    · exact h.lo.2 k (.inl e)
    · exact h.lo.2 k (.inr (.inl e))
    · exact h.lo.2 k (.inr (.inr (.inl e)))
    · rcases hG with e2 | ⟨j, e2, hj⟩
      · rw [e2] at e; exact h.lo.2 k (.inr (.inr (.inr e)))
      · rw [e2] at e; cases e; have := h.lo.1; omega
  · refine m4.trans (((hK.below ?_ h.lo.2).trans (hKc.below ?_ (fun k hk => ?_))))
    · have := h.lo.1; omega
    · have := h.lo.1; omega
    · have := h.lo.1
      have e : k = C := hk
      omega

set_option maxRecDepth 100000 in
set_option maxHeartbeats 8000000 in
theorem twrite_any (base : Nat) (w : World) (C b : Nat) (T : List UInt8) (h : CW base w C b T) (hT : T.length ≤ 1073741824) (htab : TabsB base w) (ln : Value) (st : Int) (h0 : -9223372036854775808 ≤ st) (h1 : st ≤ 9223372036854775807)
    (x y d : Nat) (hx : x < 18446744073709551616) (hy : y < 18446744073709551616) (hd : d < 18446744073709551616) (hln : ∃ z, ln = .int .i64 z) :
    Calls Tryd.prog 6 #[.pointer (some ⟨C, 0, none⟩), .agg #[ln, .int .i64 st, .int .u64 x, .int .u64 y, .float .f64 d]] w fun e w' => e = .returned (.tuple #[]) ∧ CW base w' C b (T ++ rowText st x y d) ∧ Below base w w' := by
  obtain ⟨z, rfl⟩ := hln
  obtain ⟨X, R, v, rv, O, Pd, hOP, hc⟩ := h
  obtain ⟨o, ho⟩ : ∃ o : Obj, o = .cells #[.int .i64 z, .int .i64 st, .int .u64 x, .int .u64 y, .float .f64 d] 31 := ⟨_, rfl⟩
  obtain ⟨rv0, hrv0, hown0, hrvb⟩ : ∃ rv0 : Value, (rv = .slice none 0 0 ∧ rv0 = .slice none 0 0 ∨ ∃ g n c, rv = .slice (some ⟨g, 0, none⟩) n c ∧ 1 ≤ c ∧ n ≤ c ∧ c ≤ 9223372036854775807 ∧ rv0 = .slice (some ⟨g, 0, none⟩) 0 c) ∧ (w.alloc o).ownsRow 0 5 1 rv0 0 [] ∧ rv0.ownBlock = rv.ownBlock := by
    rcases hc.own with e | ⟨L, hL, hown⟩
    · exact ⟨.slice none 0 0, .inl ⟨e, rfl⟩, World.ownsRow_nil _ _ _ _, by rw [e]⟩
    · rcases (hown.alloc o).2 with ⟨-, e2⟩ | ⟨g, c, cur, e, hb, hg, hlc, hm, hcs, htk⟩
      · omega
      · refine ⟨.slice (some ⟨g, 0, none⟩) 0 c, .inr ⟨g, L.length, c, e, by omega, hlc, hm, rfl⟩, ⟨rfl, .inr ⟨g, c, cur, rfl, hb, hg, Nat.zero_le _, hm, hcs, by simp⟩⟩, by rw [e]; rfl⟩
  have hA0 : AppR (w.alloc o) rv0 [] rv0 (w.alloc o) := AppR.refl hown0
  have hC := Lib.lt_of_heap hc.c
  have hCne : rv0.ownBlock ≠ some C := by rw [hrvb]; exact fun e => (hc.rS _ e).2.1 rfl
  have hsz := size_alloc' w o
  have hlo0 : ∀ k, rv0.ownBlock = some k → base ≤ k := fun k hk => (hc.rS k (by rw [← hrvb]; exact hk)).2.2.2
  have hBW : base ≤ w.heap.size := by have := hc.lo.1; omega
  have hcells : Hid (∀ L v2 wx, AppR (w.alloc o) rv0 L v2 wx → wx.cell? ⟨C, 0, none⟩ = some (.pointer (some ⟨X, 0, none⟩)) ∧ wx.cell? ⟨C, 1, none⟩ = some rv ∧ wx.cell? ⟨w.heap.size, 1, none⟩ = some (.int .i64 st) ∧ wx.cell? ⟨w.heap.size, 2, none⟩ = some (.int .u64 x) ∧ wx.cell? ⟨w.heap.size, 3, none⟩ = some (.int .u64 y) ∧ wx.cell? ⟨w.heap.size, 4, none⟩ = some (.float .f64 d)) := fun L v2 wx hA => by
    obtain ⟨-, m2, m3, -, -⟩ := tw_mid hc o hrvb hA
    rw [ho] at m3
    refine ⟨?_, ?_, ?_, ?_, ?_, ?_⟩
    · rw [Lib.cell_of_heap m2]; rfl
    · rw [Lib.cell_of_heap m2]; rfl
    · rw [Lib.cell_of_heap m3]; rfl
    · rw [Lib.cell_of_heap m3]; rfl
    · rw [Lib.cell_of_heap m3]; rfl
    · rw [Lib.cell_of_heap m3]; rfl
  have htabA : Hid (∀ L v2 wx, AppR (w.alloc o) rv0 L v2 wx → TabsB base wx ∧ base ≤ wx.heap.size ∧ ∀ k, v2.ownBlock = some k → base ≤ k) := fun L v2 wx hA => by
    obtain ⟨-, -, -, m3, m4⟩ := tw_mid hc o hrvb hA
    exact ⟨htab.below m4, Nat.le_trans hBW m4.size, fun k hk => (m3 k hk).2.2.2⟩
  have hend : Hid (∀ L v2 w5, L = rowText st x y d → AppR (w.alloc o) rv0 L v2 w5 → ∃ a c, v2 = .slice (some ⟨a, 0, none⟩) L.length c ∧ Calls Tryd.prog 18 #[.pointer (some ⟨X, 0, none⟩), .slice (some ⟨a, 0, none⟩) L.length c] w5 (fun e w6 => (∃ q, e = .returned q) ∧ w6.cell? ⟨C, 1, none⟩ = some rv ∧ w6.frozen? ⟨C, 1, none⟩ = false ∧ CW base (w6.setCell ⟨C, 1, none⟩ v2) C b (T ++ rowText st x y d) ∧ Below base w (w6.setCell ⟨C, 1, none⟩ v2))) := fun L v2 w5 hLr hA => by
    have hlen : 1 ≤ L.length ∧ L.length ≤ 4096 := by
      rw [hLr]
      unfold rowText
      have g1 := Lib.itoa_length_le st h0 h1
      have g2 := nDigits_le20 x hx
      have g3 := nDigits_le20 y hy
      have g4 := fl_length d
      simp only [List.length_append, Lib.decDigits_length, List.length_cons, List.length_nil]
      omega
    obtain ⟨m1, m2, -, m3, m4⟩ := tw_mid hc o hrvb hA
    obtain ⟨a, c, e, hcm, hlc⟩ := hA.isSlice
    rcases hA.own.2 with ⟨-, e0⟩ | ⟨g, cap, cur, e2, -, hg, hlc2, hm2, hcs, htk⟩
    · omega
    · refine ⟨g, cap, e2, ?_⟩
      have hgb : v2.ownBlock = some g := by rw [e2]; rfl
      refine (write_any w5 X R b v O Pd L m1 g 0 cap hlen.1 hlen.2 hlc2 hm2 (m3 g hgb).2.2.1 (m3 g hgb).1 (hA.own.cells hgb) ?_).mono ?_
      · have := congrArg List.length hOP
        rw [List.length_append] at this
        omega
      · rintro en w6 ⟨q, v', O', Pd', hT', hW6, hK6, hG6⟩
        obtain ⟨r1, r2, r3⟩ := tw_last hc o hrvb hA hlen.1 hW6 hK6 hG6
        have hc6 := hK6.heap m2 hc.cS
        refine ⟨q, by rw [Lib.cell_of_heap hc6]; rfl, Lib.frozen_of_heap hc6 1, ⟨X, R, v', v2, O', Pd', ?_, r1⟩, r2⟩
        rw [hT', hOP, hLr]
  obtain ⟨T', hT'⟩ : ∃ T', T' = T ++ rowText st x y d := ⟨_, rfl⟩
  rw [← hT'] at hend ⊢
  have HI : Hid (∀ m, Calls Tryd.prog 15 #[rv0, .int .i64 st, .int .i64 10] ((w.alloc o).drewN m) (AppP ((w.alloc o).drewN m) rv0 (Lib.itoa st))) := fun m => by
    obtain ⟨t1, t2, t3⟩ := unhide htabA _ _ _ (hA0.quiet (grownBy_drew (w.alloc o) m none))
    exact appendIntP_any st h0 h1 base rv0 [] ((w.alloc o).drewN m) (hA0.quiet (grownBy_drew (w.alloc o) m none)).own (by simp) t2 hlo0 t1.pow
  have HU : Hid (∀ L v2 wx (u : Nat), u < 18446744073709551616 → L.length ≤ 1000000 → AppR (w.alloc o) rv0 L v2 wx → Calls Tryd.prog 16 #[v2, .int .u64 u, .int .i64 10] wx (fun e w' => ∃ v3, e = .returned v3 ∧ AppR (w.alloc o) rv0 (L ++ Lib.decDigits u) v3 w')) := fun L v2 wx u hu hL hA => by
    obtain ⟨t1, t2, t3⟩ := unhide htabA _ _ _ hA
    refine (appendUintP_any u hu v2 L wx hA.own (by omega) t1.here.pow).mono ?_
    rintro e w' ⟨v3, rfl, h3⟩
    exact ⟨v3, rfl, hA.trans h3⟩
  have HFt : Hid (∀ L v2 wx, L.length ≤ 1000000 → AppR (w.alloc o) rv0 L v2 wx → Calls Tryd.prog 17 #[v2, .float .f64 d, .int .u8 102, .int .i64 2, .int .i64 64] wx (fun e w' => ∃ v3, e = .returned v3 ∧ AppR (w.alloc o) rv0 (L ++ fl d) v3 w')) := fun L v2 wx hL hA => by
    obtain ⟨t1, t2, t3⟩ := unhide htabA _ _ _ hA
    refine (appendFloatP_any d hd v2 L wx hA.own (by omega) base t2 t1).mono ?_
    rintro e w' ⟨v3, rfl, h3⟩
    exact ⟨v3, rfl, hA.trans h3⟩
  obtain ⟨c00, c01, b1, b2, b3, b4⟩ := unhide hcells _ _ _ hA0
  have hA0' := hide hA0
  have hL1 : Hid ((Lib.itoa st).length ≤ 21) := Lib.itoa_length_le st h0 h1
  have hLx : Hid ((Lib.decDigits x).length ≤ 20) := by rw [Hid, Lib.decDigits_length]; exact nDigits_le20 x hx
  have hLy : Hid ((Lib.decDigits y).length ≤ 20) := by rw [Hid, Lib.decDigits_length]; exact nDigits_le20 y hy
  have hLd : Hid ((fl d).length ≤ 400) := fl_length d
  have hkeepc : Hid (∀ m v3 w3, AppR ((w.alloc o).drewN m) rv0 (Lib.itoa st) v3 w3 → AppR (w.alloc o) rv0 (Lib.itoa st) v3 w3) := fun m v3 w3 hA => (hA0.quiet (grownBy_drew (w.alloc o) m none)).trans hA
  clear hc hown0 hA0 hC hsz hlo0 hBW htab hT' hOP hT hrvb hCne
  have ho2 := ho.symm
  clear ho
  go_enter Tryd.func6, Tryd.ntmps6
  go_upto_region 1 with fail
  go_cut [4] from 5 to 12 (fun v1 wx => AppR (w.alloc o) rv0 (Lib.itoa st) v1 wx)
  case first =>
    have hS : Hid (∀ v3 w3, AppR (w.alloc o) rv0 (Lib.itoa st) v3 w3 → w3.cell? ⟨C, 1, none⟩ = some rv ∧ w3.cell? ⟨w.heap.size, 1, none⟩ = some (.int .i64 st)) := fun v3 w3 hA => ⟨(unhide hcells _ _ _ hA).2.1, (unhide hcells _ _ _ hA).2.2.1⟩
    rcases hrv0 with ⟨rfl, rfl⟩ | ⟨g, n, c, rfl, hc1, hnc, hcm, rfl⟩
    · go_region_held3 (fun wx => wx.cell? ⟨C, 1, none⟩ = some (.slice none 0 0) ∧ wx.cell? ⟨w.heap.size, 1, none⟩ = some (.int .i64 st))
        (first | exact ⟨c01, b1⟩ | exact hkeep)
        (first | (go_at_call 15; refine (unhide HI 1).mono ?_; rintro en w3 ⟨v3, rfl, hA3⟩; have hA3' := hide (unhide hkeepc _ _ _ hA3); have hkeep := unhide hS _ _ (unhide hA3'); clear hA3))
      go_wp2
      go_meet
      case rel => exact unhide hA3'
    · have hcI : (0 : Int) ≤ c := by omega
      have hc0 : ¬ c = 0 := by omega
      go_region_held3 (fun wx => wx.cell? ⟨C, 1, none⟩ = some (.slice (some ⟨g, 0, none⟩) n c) ∧ wx.cell? ⟨w.heap.size, 1, none⟩ = some (.int .i64 st))
        (first | exact ⟨c01, b1⟩ | exact hkeep)
        (first | (go_at_call 15; refine (unhide HI 1).mono ?_; rintro en w3 ⟨v3, rfl, hA3⟩; have hA3' := hide (unhide hkeepc _ _ _ hA3); have hkeep := unhide hS _ _ (unhide hA3'); clear hA3))
      go_wp2
      go_meet
      case rel => exact unhide hA3'
  case rest =>
    have hA1 := hide hcut
    obtain ⟨L1, hL1d⟩ : ∃ L1, L1 = Lib.itoa st := ⟨_, rfl⟩
    rw [← hL1d] at hA1 hL1
    obtain ⟨n1, hn1⟩ : ∃ n1, n1 = L1.length := ⟨_, rfl⟩
    have hn1' := hide hn1
    have hL1d' := hide hL1d
    have hb1 : n1 ≤ 21 := by rw [hn1]; exact unhide hL1
    clear hcut HI c00 c01 b1 b2 b3 b4 hrv0 hkeepc hL1d hn1 hL1
    go_wp2_with (at_builtin; refine wpList_app1 rfl _ _ rfl (w.alloc o) rv0 u4 L1 44 _ (unhide hA1) rfl _ rfl (by have := unhide hn1'; omega) ?_)
    intro v2 w2 hB
    obtain ⟨L2, hL2d⟩ : ∃ L2, L2 = L1 ++ [44] := ⟨_, rfl⟩
    rw [← hL2d] at hB
    have hA2 := hide hB
    obtain ⟨n2, hn2⟩ : ∃ n2, n2 = L2.length := ⟨_, rfl⟩
    have hb2 : n2 ≤ 22 := by
      have e1 := unhide hn1'
      have e2 := unhide hLx
      have e3 := unhide hLy
      have e4 := unhide hLd
      rw [hn2, hL2d, List.length_append]
      (try simp only [List.length_cons, List.length_nil])
      omega
    have hn2' := hide hn2
    have hL2d' := hide hL2d
    obtain ⟨c00, c01, b1, b2, b3, b4⟩ := unhide hcells _ _ _ hB
    clear hB hA1 hn2 hL2d
    have HC2 := hide (unhide HU L2 v2 w2 x hx (by have := unhide hn2'; omega) (unhide hA2))
    go_wp2_with fail
    refine (unhide HC2).mono ?_
    rintro e w3 ⟨v3, rfl, hB⟩
    clear HC2 c00 c01 b1 b2 b3 b4
    obtain ⟨L3, hL3d⟩ : ∃ L3, L3 = L2 ++ Lib.decDigits x := ⟨_, rfl⟩
    rw [← hL3d] at hB
    have hA3 := hide hB
    obtain ⟨n3, hn3⟩ : ∃ n3, n3 = L3.length := ⟨_, rfl⟩
    have hb3 : n3 ≤ 42 := by
      have e1 := unhide hn2'
      have e2 := unhide hLx
      have e3 := unhide hLy
      have e4 := unhide hLd
      rw [hn3, hL3d, List.length_append]
      (try simp only [List.length_cons, List.length_nil])
      omega
    have hn3' := hide hn3
    have hL3d' := hide hL3d
    obtain ⟨c00, c01, b1, b2, b3, b4⟩ := unhide hcells _ _ _ hB
    clear hB hA2 hn3 hL3d
    clear c00 c01 b1 b2 b3 b4
    go_wp2_with (at_builtin; refine wpList_app1 rfl _ _ rfl (w.alloc o) rv0 v3 L3 44 _ (unhide hA3) rfl _ rfl (by have := unhide hn3'; omega) ?_)
    intro v4 w4 hB
    obtain ⟨L4, hL4d⟩ : ∃ L4, L4 = L3 ++ [44] := ⟨_, rfl⟩
    rw [← hL4d] at hB
    have hA4 := hide hB
    obtain ⟨n4, hn4⟩ : ∃ n4, n4 = L4.length := ⟨_, rfl⟩
    have hb4 : n4 ≤ 43 := by
      have e1 := unhide hn3'
      have e2 := unhide hLx
      have e3 := unhide hLy
      have e4 := unhide hLd
      rw [hn4, hL4d, List.length_append]
      (try simp only [List.length_cons, List.length_nil])
      omega
    have hn4' := hide hn4
    have hL4d' := hide hL4d
    obtain ⟨c00, c01, b1, b2, b3, b4⟩ := unhide hcells _ _ _ hB
    clear hB hA3 hn4 hL4d
    have HC4 := hide (unhide HU L4 v4 w4 y hy (by have := unhide hn4'; omega) (unhide hA4))
    go_wp2_with fail
    refine (unhide HC4).mono ?_
    rintro e w5 ⟨v5, rfl, hB⟩
    clear HC4 c00 c01 b1 b2 b3 b4
    obtain ⟨L5, hL5d⟩ : ∃ L5, L5 = L4 ++ Lib.decDigits y := ⟨_, rfl⟩
    rw [← hL5d] at hB
    have hA5 := hide hB
    obtain ⟨n5, hn5⟩ : ∃ n5, n5 = L5.length := ⟨_, rfl⟩
    have hb5 : n5 ≤ 63 := by
      have e1 := unhide hn4'
      have e2 := unhide hLx
      have e3 := unhide hLy
      have e4 := unhide hLd
      rw [hn5, hL5d, List.length_append]
      (try simp only [List.length_cons, List.length_nil])
      omega
    have hn5' := hide hn5
    have hL5d' := hide hL5d
    obtain ⟨c00, c01, b1, b2, b3, b4⟩ := unhide hcells _ _ _ hB
    clear hB hA4 hn5 hL5d
    clear c00 c01 b1 b2 b3 b4
    go_wp2_with (at_builtin; refine wpList_app1 rfl _ _ rfl (w.alloc o) rv0 v5 L5 44 _ (unhide hA5) rfl _ rfl (by have := unhide hn5'; omega) ?_)
    intro v6 w6 hB
    obtain ⟨L6, hL6d⟩ : ∃ L6, L6 = L5 ++ [44] := ⟨_, rfl⟩
    rw [← hL6d] at hB
    have hA6 := hide hB
    obtain ⟨n6, hn6⟩ : ∃ n6, n6 = L6.length := ⟨_, rfl⟩
    have hb6 : n6 ≤ 64 := by
      have e1 := unhide hn5'
      have e2 := unhide hLx
      have e3 := unhide hLy
      have e4 := unhide hLd
      rw [hn6, hL6d, List.length_append]
      (try simp only [List.length_cons, List.length_nil])
      omega
    have hn6' := hide hn6
    have hL6d' := hide hL6d
    obtain ⟨c00, c01, b1, b2, b3, b4⟩ := unhide hcells _ _ _ hB
    clear hB hA5 hn6 hL6d
    have HC6 := hide (unhide HFt L6 v6 w6 (by have := unhide hn6'; omega) (unhide hA6))
    go_wp2_with fail
    refine (unhide HC6).mono ?_
    rintro e w7 ⟨v7, rfl, hB⟩
    clear HC6 c00 c01 b1 b2 b3 b4
    obtain ⟨L7, hL7d⟩ : ∃ L7, L7 = L6 ++ fl d := ⟨_, rfl⟩
    rw [← hL7d] at hB
    have hA7 := hide hB
    obtain ⟨n7, hn7⟩ : ∃ n7, n7 = L7.length := ⟨_, rfl⟩
    have hb7 : n7 ≤ 464 := by
      have e1 := unhide hn6'
      have e2 := unhide hLx
      have e3 := unhide hLy
      have e4 := unhide hLd
      rw [hn7, hL7d, List.length_append]
      (try simp only [List.length_cons, List.length_nil])
      omega
    have hn7' := hide hn7
    have hL7d' := hide hL7d
    obtain ⟨c00, c01, b1, b2, b3, b4⟩ := unhide hcells _ _ _ hB
    clear hB hA6 hn7 hL7d
    clear c00 c01 b1 b2 b3 b4
    go_wp2_with (at_builtin; refine wpList_app1 rfl _ _ rfl (w.alloc o) rv0 v7 L7 10 _ (unhide hA7) rfl _ rfl (by have := unhide hn7'; omega) ?_)
    intro v8 w8 hB
    obtain ⟨L8, hL8d⟩ : ∃ L8, L8 = L7 ++ [10] := ⟨_, rfl⟩
    rw [← hL8d] at hB
    have hA8 := hide hB
    obtain ⟨n8, hn8⟩ : ∃ n8, n8 = L8.length := ⟨_, rfl⟩
    have hb8 : n8 ≤ 465 := by
      have e1 := unhide hn7'
      have e2 := unhide hLx
      have e3 := unhide hLy
      have e4 := unhide hLd
      rw [hn8, hL8d, List.length_append]
      (try simp only [List.length_cons, List.length_nil])
      omega
    have hn8' := hide hn8
    have hL8d' := hide hL8d
    obtain ⟨c00, c01, b1, b2, b3, b4⟩ := unhide hcells _ _ _ hB
    clear hB hA7 hn8 hL8d
    have hrow : L8 = rowText st x y d := by
      rw [unhide hL8d', unhide hL7d', unhide hL6d', unhide hL5d', unhide hL4d', unhide hL3d', unhide hL2d', unhide hL1d']
      rfl
    obtain ⟨a8, c8, hv8, HW8⟩ := unhide hend L8 v8 w8 hrow (unhide hA8)
    subst hv8
    have HW := hide HW8
    clear HW8 hrow hcells htabA hend HU HFt
    go_wp2_with fail
    refine (unhide HW).mono ?_
    rintro e w9 ⟨⟨q, rfl⟩, g1, g2, g3, g4⟩
    have g3' := hide g3
    have g4' := hide g4
    clear g3 g4 HW c00 c01 b1 b2 b3 b4
    go_wp2
    go_end0
    exact ⟨rfl, unhide g3', unhide g4'⟩

end Go.Proofs.Qxb6614069aDoor
