import Derived.Test.Qxb6609067aFmtBut
namespace Go.Proofs.Qxb6609067aFmt
open Go.RowKit

theorem Tryf.info48 : (Tryf.prog.info? 48).map (fun i => (i.zero, i.size, i.bytes)) = some (some (.agg #[.string ⟨#[]⟩, .string ⟨#[]⟩]), 2, 32) := by kernel_rfl

/-- The cells of a list of pairs. -/
def pairCells (ps : List (ByteArray × ByteArray)) : List Value := ps.flatMap fun p => [.string p.1, .string p.2]

theorem pairCells_length (ps : List (ByteArray × ByteArray)) : (pairCells ps).length = ps.length * 2 := by
  induction ps with
  | nil => rfl
  | cons p ps ih => simp [pairCells] at ih ⊢; omega

theorem pairCells_at (ps : List (ByteArray × ByteArray)) : ∀ (i : Nat) (s t : ByteArray), ps[i]? = some (s, t) → (pairCells ps)[i * 2]? = some (.string s) ∧ (pairCells ps)[i * 2 + 1]? = some (.string t) := by
  induction ps with
  | nil => intro i s t h; simp at h
  | cons p ps ih =>
    intro i s t h
    cases i with
    | zero =>
      simp at h
      subst h
      simp [pairCells]
    | succ i =>
      have := ih i s t (by simpa using h)
      rw [show (i + 1) * 2 = i * 2 + 2 by omega, show i * 2 + 2 + 1 = i * 2 + 1 + 2 by omega]
      simpa [pairCells] using this

theorem pairCells_append (ps qs : List (ByteArray × ByteArray)) : pairCells (ps ++ qs) = pairCells ps ++ pairCells qs := by simp [pairCells]

/-- A row of pairs that the call owns, read as a slice. -/
theorem PairS.own {w : World} {base g n cap : Nat} {ps : List (ByteArray × ByteArray)} (h : w.ownsRow base 48 2 (.slice (some ⟨g, 0, none⟩) n cap) n (pairCells ps)) : PairS w (.slice (some ⟨g, 0, none⟩) n cap) ps := by
  have hl : ps.length = n := by have := h.1; rw [pairCells_length] at this; omega
  have hc : n ≤ cap := by
    rcases h.2 with ⟨h', _⟩ | ⟨g', cap', cur, h', _, _, hnc, _⟩
    · simp at h'
    · simp only [Value.slice.injEq] at h'; omega
  refine ⟨_, cap, by rw [hl], by omega, by simp, fun i s t hs => ⟨g, 0, rfl, ?_⟩⟩
  have hi : i < n := by have := (List.getElem?_eq_some_iff.1 hs).1; omega
  have := pairCells_at ps i s t hs
  simp only [Nat.zero_add]
  exact ⟨by rw [h.cellAt _ (by omega)]; exact this.1, by rw [h.cellAt _ (by omega)]; exact this.2⟩

theorem toList_made_pair (z : Value) (n : Nat) : (madeCells #[z, z] n).toList = List.replicate n z := by
  apply List.ext_getElem?
  intro j
  by_cases hj : j < n
  · have : j % 2 = 0 ∨ j % 2 = 1 := by omega
    rcases this with h | h <;> simp [madeCells, hj, h]
  · simp [madeCells, hj]

/-- The pairs that are built: names, values, empty values behind the end. -/
def zipL (xs ys : List ByteArray) : List (ByteArray × ByteArray) := xs.zip (padL ys xs.length)

theorem zipL_length (xs ys : List ByteArray) : (zipL xs ys).length = xs.length := by simp [zipL, padL_length]

theorem zipL_at (xs ys : List ByteArray) (k : Nat) (s : ByteArray) (h : xs[k]? = some s) : (zipL xs ys)[k]? = some (s, ys[k]?.getD ⟨#[]⟩) := by
  have hk := (List.getElem?_eq_some_iff.1 h).1
  have h2 := padL_at ys xs.length k hk
  unfold zipL
  rw [List.getElem?_zip_eq_some]
  exact ⟨h, h2⟩

theorem zipL_fst (xs ys : List ByteArray) : (zipL xs ys).map Prod.fst = xs := by
  unfold zipL; rw [List.map_fst_zip]; simp [padL_length]

theorem zipL_snd (xs ys : List ByteArray) : (zipL xs ys).map Prod.snd = padL ys xs.length := by
  unfold zipL; rw [List.map_snd_zip]; simp [padL_length]

/-- What the row of pairs is after k rounds. -/
theorem pair_set (ps : List (ByteArray × ByteArray)) (k n : Nat) (s t : ByteArray) (hn : ps.length = n) (h : ps[k]? = some (s, t)) :
    ((fillL (.string ⟨#[]⟩) (pairCells ps) (k * 2) (n * 2)).set (k * 2) (.string s)).set (k * 2 + 1) (.string t) = fillL (.string ⟨#[]⟩) (pairCells ps) ((k + 1) * 2) (n * 2) := by
  have hk := (List.getElem?_eq_some_iff.1 h).1
  have hl := pairCells_length ps
  obtain ⟨h1, h2⟩ := pairCells_at ps k s t h
  rw [fillL_set _ _ _ _ (by omega) (by omega) _ h1, fillL_set _ _ _ _ (by omega) (by omega) _ h2]
  congr 1
  omega

/-- What is built. -/
def BuildPost (line : Int) (kw ar : ByteArray) (x3 x4 x5 : List ByteArray) (b3 b4 b5 b6 : Bool) (ps : List (ByteArray × ByteArray)) (w : World) (e : Ending) (w' : World) : Prop :=
  ∃ B vE vF vW vP, e = .returned (.pointer (some ⟨B, 0, none⟩)) ∧ w.heap.size ≤ B ∧ Inst w' B line kw ar vE vF vW vP ∧ StrS w' vE x3 ∧ StrS w' vF x4 ∧ StrS w' vW x5 ∧ isNilS vE = b3 ∧ isNilS vF = b4 ∧ isNilS vW = b5 ∧ isNilS vP = b6 ∧
    (∃ n, w'.ownsRow w.heap.size 48 2 vP n (pairCells ps)) ∧ Below w.heap.size w w' ∧ (∀ k, vP.ownBlock = some k → k ≠ B ∧ vE.ownBlock ≠ some k ∧ vF.ownBlock ≠ some k ∧ vW.ownBlock ≠ some k) ∧ vE.ownBlock ≠ some B ∧ vF.ownBlock ≠ some B ∧ vW.ownBlock ≠ some B


theorem StrS.form {w : World} {v : Value} {xs : List ByteArray} (h : StrS w v xs) : ∃ a c, v = .slice a xs.length c := by
  obtain ⟨a, c, rfl, _⟩ := h
  exact ⟨a, c, rfl⟩

theorem ownsRow_below {w w' : World} {base e size n : Nat} {v : Value} {xs : List Value} (h : w.ownsRow base e size v n xs) (hb : Below w.heap.size w w') : w'.ownsRow base e size v n xs :=
  h.kept (row := none) ⟨hb.os, hb.tape, hb.output, hb.size, fun k hk _ => hb.block k hk⟩ (by cases v.ownBlock <;> simp)

theorem build_fin {line : Int} {kw ar : ByteArray} {x3 x4 x5 : List ByteArray} {b3 b4 b5 b6 : Bool} {ps : List (ByteArray × ByteArray)} {w wr w3 w4 w5 : World} {vE vF vW vP : Value} {n : Nat}
    (hP : wr.ownsRow w.heap.size 48 2 vP n (pairCells ps)) (hb : Below w.heap.size w wr) (n6 : isNilS vP = b6)
    (sE : StrS w3 vE x3) (nE : isNilS vE = b3) (bE : Below wr.heap.size wr w3) (oE : ∀ k, vE.ownBlock = some k → wr.heap.size ≤ k ∧ k < w3.heap.size)
    (sF : StrS w4 vF x4) (nF : isNilS vF = b4) (bF : Below w3.heap.size w3 w4) (oF : ∀ k, vF.ownBlock = some k → w3.heap.size ≤ k ∧ k < w4.heap.size)
    (sW : StrS w5 vW x5) (nW : isNilS vW = b5) (bW : Below w4.heap.size w4 w5) (oW : ∀ k, vW.ownBlock = some k → w4.heap.size ≤ k ∧ k < w5.heap.size) :
    BuildPost line kw ar x3 x4 x5 b3 b4 b5 b6 ps w (.returned (.pointer (some ⟨w5.heap.size, 0, none⟩))) (w5.alloc (.cells #[.int .i64 line, .string kw, .string ar, vE, vF, vW, vP] 38)) := by
  have z0 := hb.size
  have z1 := bE.size
  have z2 := bF.size
  have z3 := bW.size
  have hal : Below w5.heap.size w5 (w5.alloc (.cells #[.int .i64 line, .string kw, .string ar, vE, vF, vW, vP] 38)) := (Below.refl _ _).alloc (Nat.le_refl _) _
  refine ⟨w5.heap.size, vE, vF, vW, vP, rfl, by omega, ⟨heap_alloc_new w5 _⟩, ((sE.below bF).below bW).below hal, (sF.below bW).below hal, sW.below hal, nE, nF, nW, n6,
    ⟨n, ownsRow_below (ownsRow_below (ownsRow_below (ownsRow_below hP bE) bF) bW) hal⟩,
    (((hb.trans (bE.mono z0)).trans (bF.mono (by omega))).trans (bW.mono (by omega))).trans (hal.mono (by omega)), fun k hk => ?_, fun h => ?_, fun h => ?_, fun h => ?_⟩
  · have := (hP.lt k hk).2
    refine ⟨by omega, fun h => ?_, fun h => ?_, fun h => ?_⟩
    · have := oE k h; omega
    · have := oF k h; omega
    · have := oW k h; omega
  · have := oE _ h; omega
  · have := oF _ h; omega
  · have := oW _ h; omega

set_option maxHeartbeats 1000000 in
theorem build_some (line : Int) (kw ar : ByteArray) (v3 v4 v5 : Value) (ad : Addr) (a7 : Option Addr) (n6 n7 c6 c7 : Nat) (x3 x4 x5 x6 x7 : List ByteArray) (w : World)
    (h3 : StrS w v3 x3) (h4 : StrS w v4 x4) (h5 : StrS w v5 x5) (h6 : StrS w (.slice (some ad) n6 c6) x6) (h7 : StrS w (.slice a7 n7 c7) x7) (hn6 : n6 ≤ 1048576)
    (hn3 : x3.length ≤ 1048576) (hn4 : x4.length ≤ 1048576) (hn5 : x5.length ≤ 1048576) :
    Calls Tryf.prog 12 #[.int .i64 line, .string kw, .string ar, v3, v4, v5, .slice (some ad) n6 c6, .slice a7 n7 c7] w (BuildPost line kw ar x3 x4 x5 (isNilS v3) (isNilS v4) (isNilS v5) false (zipL x6 x7) w) := by
  obtain ⟨q6, _, _, hc6⟩ := h6.some_cases
  obtain ⟨q7, _, _, hc7⟩ := h7.some_cases
  have l6 := hide q6
  have l7 := hide q7
  have lz : Hid ((zipL x6 x7).length = n6) := by simp only [Hid]; rw [zipL_length, q6]
  clear h6 h7 q6 q7
  obtain ⟨i0, hi, hz0, hz1, hz2⟩ := info_parts Tryf.info48
  have hnl := fun w => run_neq_slice_nil_any (P := Tryf.prog) w 22 9 (some ad) n6 c6 0 0 Tryf.underlying22
  have hb2 : i0.bytes * n6 ≤ 281474976710656 := by rw [hz2]; omega
  have hmx : n6 ≤ maxLen := by unfold maxLen; omega
  go_enter Tryf.func12, Tryf.ntmps12
  go_wp2_with (at_make; refine wpList_make_full _ rfl _ _ 36 rfl w.heap.size 48 i0 (.agg #[.string ⟨#[]⟩, .string ⟨#[]⟩]) 2 Tryf.underlying36 hi hz0 hz1 _ _ _ _ n6 rfl rfl rfl rfl hb2 hmx (Nat.le_refl _) ?_)
  intro w1 hown1 hgrow1
  have hst : Hid (w1.ownsRow w.heap.size 48 2 (.slice (some ⟨w.heap.size, 0, none⟩) n6 n6) n6 (fillL (.string ⟨#[]⟩) (pairCells (zipL x6 x7)) (0 * 2) (n6 * 2)) ∧ Below w.heap.size w w1) := by
    refine ⟨?_, (Below.refl _ w).grown hgrow1 (Nat.le_refl _) (by simp)⟩
    rw [Nat.zero_mul, fillL_zero, ← toList_made_pair]; exact hown1
  clear hown1 hgrow1 hi hz0 hz1 hz2
  go_wp2
  go_loopw [18, 19] (fun i _ wr => ∃ k : Nat, k ≤ n6 ∧ i = .int .i64 k ∧ wr.ownsRow w.heap.size 48 2 (.slice (some ⟨w.heap.size, 0, none⟩) n6 n6) n6 (fillL (.string ⟨#[]⟩) (pairCells (zipL x6 x7)) (k * 2) (n6 * 2)) ∧ Below w.heap.size w wr) (fun i _ _ => n6 - (intOf i).toNat)
  case atStart => exact ⟨0, Nat.zero_le _, rfl, (unhide hst).1, (unhide hst).2⟩
  case round =>
    obtain ⟨k, hk, rfl, hr, hbel⟩ := hrel
    clear hst
    by_cases hlt : k < n6
    · obtain ⟨s, hs⟩ : ∃ s, x6[k]? = some s := ⟨x6[k]'(by have := unhide l6; omega), by simp⟩
      obtain ⟨b, o, he, hcl⟩ := hc6 k s hs
      have hb := World.block_lt_of_cell? w _ hcl
      have hzk := zipL_at x6 x7 k s hs
      have hpl := pairCells_length (zipL x6 x7)
      rw [unhide lz] at hpl
      cases he
      have hx1 : wr.cell? ⟨b, o + k, none⟩ = some (.string s) := by rw [hbel.cell hb]; exact hcl
      have hy1 : wr.cell? ⟨w.heap.size, k * 2, none⟩ = some (.string ⟨#[]⟩) := by rw [hr.cellAt _ (by omega)]; exact fillL_at _ _ _ _ hpl (by omega)
      have hy2 : wr.cell? ⟨w.heap.size, k * 2 + 1, none⟩ = some (.string ⟨#[]⟩) := by
        rw [hr.cellAt _ (by omega)]
        unfold fillL
        rw [List.getElem?_append_right (by simp; omega), List.getElem?_replicate, if_pos (by simp; omega)]
      have hf1 := hr.frozenAt (k * 2)
      have hf2 := hr.frozenAt (k * 2 + 1)
      by_cases hlt2 : k < n7
      · obtain ⟨t, ht⟩ : ∃ s, x7[k]? = some s := ⟨x7[k]'(by have := unhide l7; omega), by simp⟩
        obtain ⟨b7, o7, he7, hcl7⟩ := hc7 k t ht
        have hb7 := World.block_lt_of_cell? w _ hcl7
        cases he7
        have hx7 : wr.cell? ⟨b7, o7 + k, none⟩ = some (.string t) := by rw [hbel.cell hb7]; exact hcl7
        rw [ht] at hzk
        have hps := pair_set (zipL x6 x7) k n6 s t (unhide lz) hzk
        have hst := ((hr.stored (k * 2) (.string s)).1.stored (k * 2 + 1) (.string t)).1
        rw [hps] at hst
        have R1 := hide hst
        have R2 := hide ((hbel.setCell (p := ⟨w.heap.size, k * 2, none⟩) (Nat.le_refl _) (.string s)).setCell (p := ⟨w.heap.size, k * 2 + 1, none⟩) (Nat.le_refl _) (.string t))
        clear hst hps hr hs ht hc6 hc7 hzk hpl
        go_wp2
        go_roundw
        case rel => exact ⟨k + 1, by omega, by go_num, unhide R1, unhide R2⟩
        case measure => simp [intOf]; omega
      · have ht : x7[k]? = none := by have := unhide l7; simp; omega
        rw [ht] at hzk
        have hps := pair_set (zipL x6 x7) k n6 s ⟨#[]⟩ (unhide lz) hzk
        have hst := ((hr.stored (k * 2) (.string s)).1.stored (k * 2 + 1) (.string ⟨#[]⟩)).1
        rw [hps] at hst
        have R1 := hide hst
        have R2 := hide ((hbel.setCell (p := ⟨w.heap.size, k * 2, none⟩) (Nat.le_refl _) (.string s)).setCell (p := ⟨w.heap.size, k * 2 + 1, none⟩) (Nat.le_refl _) (.string ⟨#[]⟩))
        clear hst hps hr hs ht hc6 hc7 hzk hpl
        go_wp2
        go_roundw
        case rel => exact ⟨k + 1, by omega, by go_num, unhide R1, unhide R2⟩
        case measure => simp [intOf]; omega
    · have : k = n6 := by omega
      subst this
      rw [fillL_full _ _ _ (by rw [pairCells_length, unhide lz])] at hr
      have hr0 := hide hr
      have hbel0 := hide hbel
      have hlt0 := (hr.lt _ rfl).2
      have hg0 := hbel.size
      clear hr hbel hc6 hc7
      go_wp2_with fail
      refine (clone_any v3 x3 wr (h3.below (unhide hbel0)) hn3).mono ?_
      rintro e w3 ⟨vE, rfl, sE, nE, bE, oE⟩
      obtain ⟨aE, cE, rfl⟩ := sE.form
      have bv3 := ((unhide hbel0).trans (bE.mono hg0))
      have H4 := hide (clone_any v4 x4 w3 (h4.below bv3) hn4)
      have tE := hide (And.intro sE (And.intro nE (And.intro bE oE)))
      have bv := hide bv3
      have hg3 := bv3.size
      clear sE nE oE bE bv3
      go_wp2_with fail
      refine (unhide H4).mono ?_
      rintro e w4 ⟨vF, rfl, sF, nF, bF, oF⟩
      obtain ⟨aF, cF, rfl⟩ := sF.form
      have bv4 := ((unhide bv).trans (bF.mono hg3))
      have H5 := hide (clone_any v5 x5 w4 (h5.below bv4) hn5)
      have tF := hide (And.intro sF (And.intro nF (And.intro bF oF)))
      clear sF nF oF bF bv4 H4
      go_wp2_with fail
      refine (unhide H5).mono ?_
      rintro e w5 ⟨vW, rfl, sW, nW, bW, oW⟩
      obtain ⟨aW, cW, rfl⟩ := sW.form
      have tW := hide (And.intro sW (And.intro nW (And.intro bW oW)))
      clear sW nW oW bW H5
      go_wp2
      go_ret
      obtain ⟨sE, nE, bE, oE⟩ := unhide tE
      obtain ⟨sF, nF, bF, oF⟩ := unhide tF
      obtain ⟨sW, nW, bW, oW⟩ := unhide tW
      exact build_fin (unhide hr0) (unhide hbel0) rfl sE nE bE oE sF nF bF oF sW nW bW oW

set_option maxHeartbeats 1000000 in
theorem build_nil (line : Int) (kw ar : ByteArray) (v3 v4 v5 v7 : Value) (x3 x4 x5 : List ByteArray) (w : World)
    (h3 : StrS w v3 x3) (h4 : StrS w v4 x4) (h5 : StrS w v5 x5)
    (hn3 : x3.length ≤ 1048576) (hn4 : x4.length ≤ 1048576) (hn5 : x5.length ≤ 1048576) :
    Calls Tryf.prog 12 #[.int .i64 line, .string kw, .string ar, v3, v4, v5, .slice none 0 0, v7] w (BuildPost line kw ar x3 x4 x5 (isNilS v3) (isNilS v4) (isNilS v5) true [] w) := by
  have hnl := fun w => run_neq_slice_nil_any (P := Tryf.prog) w 22 9 none 0 0 0 0 Tryf.underlying22
  go_enter Tryf.func12, Tryf.ntmps12
  go_wp2_with fail
  refine (clone_any v3 x3 w h3 hn3).mono ?_
  rintro e w3 ⟨vE, rfl, sE, nE, bE, oE⟩
  obtain ⟨aE, cE, rfl⟩ := sE.form
  have H4 := hide (clone_any v4 x4 w3 (h4.below bE) hn4)
  have tE := hide (And.intro sE (And.intro nE (And.intro bE oE)))
  have hg3 := bE.size
  clear sE nE oE bE
  go_wp2_with fail
  refine (unhide H4).mono ?_
  rintro e w4 ⟨vF, rfl, sF, nF, bF, oF⟩
  obtain ⟨aF, cF, rfl⟩ := sF.form
  have bv4 := ((unhide tE).2.2.1.trans (bF.mono hg3))
  have H5 := hide (clone_any v5 x5 w4 (h5.below bv4) hn5)
  have tF := hide (And.intro sF (And.intro nF (And.intro bF oF)))
  clear sF nF oF bF bv4 H4
  go_wp2_with fail
  refine (unhide H5).mono ?_
  rintro e w5 ⟨vW, rfl, sW, nW, bW, oW⟩
  obtain ⟨aW, cW, rfl⟩ := sW.form
  have tW := hide (And.intro sW (And.intro nW (And.intro bW oW)))
  clear sW nW oW bW H5
  go_wp2
  go_ret
  obtain ⟨sE, nE, bE, oE⟩ := unhide tE
  obtain ⟨sF, nF, bF, oF⟩ := unhide tF
  obtain ⟨sW, nW, bW, oW⟩ := unhide tW
  exact build_fin (n := 0) (World.ownsRow_nil w _ 48 2) (Below.refl _ w) rfl sE nE bE oE sF nF bF oF sW nW bW oW

theorem build_any (line : Int) (kw ar : ByteArray) (v3 v4 v5 v6 v7 : Value) (x3 x4 x5 x6 x7 : List ByteArray) (w : World)
    (h3 : StrS w v3 x3) (h4 : StrS w v4 x4) (h5 : StrS w v5 x5) (h6 : StrS w v6 x6) (h7 : StrS w v7 x7)
    (hn3 : x3.length ≤ 1048576) (hn4 : x4.length ≤ 1048576) (hn5 : x5.length ≤ 1048576) (hn6 : x6.length ≤ 1048576) :
    Calls Tryf.prog 12 #[.int .i64 line, .string kw, .string ar, v3, v4, v5, v6, v7] w (BuildPost line kw ar x3 x4 x5 (isNilS v3) (isNilS v4) (isNilS v5) (isNilS v6) (zipL x6 x7) w) := by
  obtain ⟨a6, c6, rfl, hc6, hnil6, hcell6⟩ := h6
  obtain ⟨a7, c7, rfl, hc7, hnil7, hcell7⟩ := h7
  cases a6 with
  | none =>
    obtain ⟨rfl, rfl⟩ := hnil6 rfl
    exact build_nil line kw ar v3 v4 v5 _ x3 x4 x5 w h3 h4 h5 hn3 hn4 hn5
  | some ad => exact build_some line kw ar v3 v4 v5 ad a7 _ _ c6 c7 x3 x4 x5 x6 x7 w h3 h4 h5 ⟨_, c6, rfl, hc6, hnil6, hcell6⟩ ⟨_, c7, rfl, hc7, hnil7, hcell7⟩ hn6 hn3 hn4 hn5
end Go.Proofs.Qxb6609067aFmt
