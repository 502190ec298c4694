import Derived.Test.Qxb6609067aFmtScanP
namespace Go.Proofs.Qxb6609067aFmt
open Go.RowKit

theorem Tryf.info3 : (Tryf.prog.info? 3).map (fun i => (i.zero, i.size, i.bytes)) = some (some (.int .i64 0), 1, 8) := by kernel_rfl

def c1 (outs : List (Int × Int × Int)) : List Value := outs.map fun t => Value.int .i64 t.1
def c2 (outs : List (Int × Int × Int)) : List Value := outs.map fun t => Value.int .i64 t.2.1
def c3 (outs : List (Int × Int × Int)) : List Value := outs.map fun t => Value.int .i64 t.2.2

/-- The three lists that the scan gathers. -/
def ScanRel (w : World) (v1 v2 v3 : Value) (outs : List (Int × Int × Int)) (wr : World) : Prop := Rows3 w.heap.size 3 w v1 v2 v3 (c1 outs) (c2 outs) (c3 outs) wr

/-- The order in which state, depth and starts stand. -/
def ScanInv (s : ByteArray) (st : Int) (d k : Nat) (start eq : Int) (outs : List (Int × Int × Int)) : Prop :=
  (5 ≤ st → 1 ≤ d) ∧ (st ≠ 0 → 0 ≤ start) ∧ (st = 1 → k < s.size) ∧ allW s = joinW outs (contW st.toNat d k start eq (s.data.toList.drop k) s.size)

def ScanPost (s : ByteArray) (w : World) (e : Ending) (w' : World) : Prop :=
  ∃ v1 v2 v3, e = .returned (.tuple #[v1, v2, v3, .bool (allW s).2]) ∧ IntS w' v1 ((allW s).1.map (·.1)) ∧ IntS w' v2 ((allW s).1.map (·.2.1)) ∧ IntS w' v3 ((allW s).1.map (·.2.2)) ∧ Below w.heap.size w w'

theorem ScanRel.fin {w wr : World} {v1 v2 v3 : Value} {outs : List (Int × Int × Int)} (h : ScanRel w v1 v2 v3 outs wr) :
    IntS wr v1 (outs.map (·.1)) ∧ IntS wr v2 (outs.map (·.2.1)) ∧ IntS wr v3 (outs.map (·.2.2)) ∧ Below w.heap.size w wr := by
  refine ⟨IntS.of_own (base := w.heap.size) (n := (c1 outs).length) ?_, IntS.of_own (base := w.heap.size) (n := (c2 outs).length) ?_, IntS.of_own (base := w.heap.size) (n := (c3 outs).length) ?_, h.bel⟩
  · rw [List.map_map]; exact h.own1
  · rw [List.map_map]; exact h.own2
  · rw [List.map_map]; exact h.own3

theorem ScanRel.push {w wr : World} {v1 v2 v3 : Value} {outs : List (Int × Int × Int)} (t : Int × Int × Int)
    (h : Rows3 w.heap.size 3 w v1 v2 v3 (c1 outs ++ [.int .i64 t.1]) (c2 outs ++ [.int .i64 t.2.1]) (c3 outs ++ [.int .i64 t.2.2]) wr) : ScanRel w v1 v2 v3 (outs ++ [t]) wr := by
  unfold ScanRel c1 c2 c3
  simp only [List.map_append, List.map_cons, List.map_nil]
  exact h

theorem ScanPost.mk {s : ByteArray} {w wr : World} {v1 v2 v3 : Value} {outs : List (Int × Int × Int)} {b : Bool} (h : allW s = (outs, b)) (hR : ScanRel w v1 v2 v3 outs wr) : ScanPost s w (.returned (.tuple #[v1, v2, v3, .bool b])) wr := by
  obtain ⟨h1, h2, h3, h4⟩ := hR.fin
  exact ⟨v1, v2, v3, by rw [h], by rw [h]; exact h1, by rw [h]; exact h2, by rw [h]; exact h3, h4⟩

theorem c_len (outs : List (Int × Int × Int)) : (c1 outs).length = outs.length ∧ (c2 outs).length = outs.length ∧ (c3 outs).length = outs.length := by simp [c1, c2, c3]

set_option maxRecDepth 100000 in
set_option maxHeartbeats 20000000 in
theorem scan_any (s : ByteArray) (w : World) (hs : s.size ≤ 1048576) : Calls Tryf.prog 30 #[.string s] w (ScanPost s w) := by
  obtain ⟨i0, hi, hz0, hz1, hz2⟩ := info_parts Tryf.info3
  go_enter Tryf.func30, Tryf.ntmps30
  go_wp2
  go_loopw [6, 7, 8, 9, 10, 11, 12, 13] (fun v1 v2 v3 sv dv av ev iv wr => ∃ (k d : Nat) (st start eq : Int) (outs : List (Int × Int × Int)), k ≤ s.size ∧ 0 ≤ st ∧ st ≤ 6 ∧ sv = .int .i64 st ∧ dv = .int .i64 d ∧ av = .int .i64 start ∧ ev = .int .i64 eq ∧ iv = .int .i64 k ∧
      d ≤ k ∧ -1 ≤ start ∧ start ≤ k ∧ -1 ≤ eq ∧ eq ≤ k ∧ outs.length ≤ k ∧ ScanRel w v1 v2 v3 outs wr ∧ Hid (ScanInv s st d k start eq outs)) (fun _ _ _ _ _ _ _ iv _ => s.size + 1 - (intOf iv).toNat)
  case atStart =>
    refine ⟨0, 0, 0, -1, -1, [], Nat.zero_le _, by omega, by omega, rfl, rfl, rfl, rfl, rfl, by omega, by omega, by omega, by omega, by omega, by simp, ?_, ?_⟩
    · exact ⟨World.ownsRow_nil _ _ _ _, World.ownsRow_nil _ _ _ _, World.ownsRow_nil _ _ _ _, by simp [Value.ownBlock], by simp [Value.ownBlock], by simp [Value.ownBlock], Below.refl _ _, Nat.le_refl _⟩
    · exact ⟨by omega, by omega, by omega, by simp [allW, joinW, contW_zero]⟩
  case round =>
    obtain ⟨k, d, st, start, eq, outs, hk, hst0, hst6, rfl, rfl, rfl, rfl, rfl, hdk, ha1, ha2, he1, he2, hol, hR, hinv⟩ := hrel
    obtain ⟨hi1, hi2, hi3, hv⟩ := unhide hinv
    clear hinv

    by_cases hlt : k < s.size
    · have hc7 : st = 0 ∨ st = 1 ∨ st = 2 ∨ st = 3 ∨ st = 4 ∨ st = 5 ∨ st = 6 := by omega
      rcases hc7 with rfl | rfl | rfl | rfl | rfl | rfl | rfl
      · by_cases hbl : s[k] = 32 ∨ s[k] = 9
        · by_cases hst : start < 0
          · have hinv' : Hid (ScanInv s 0 d (k + 1) start eq outs) := ⟨by omega, by omega, by omega, by show allW s = joinW outs (contW 0 _ _ _ _ _ _); rw [contW_zero, ← WStep_blank s k start eq hlt hbl hst, ← contW_zero d _ _ _ _ s.size]; exact hv⟩
            have hR' := hide hR
            clear hv hi1 hi2 hi3 hR
            rcases hbl with h | h
            · have hn : (s[k].toNat : Int) = 32 := by rw [h]; rfl
              clear h
              go_wp2
              go_roundw
              case rel => exact ⟨k + 1, d, 0, start, eq, outs, by omega, by omega, by omega, rfl, rfl, rfl, rfl, by go_num, by omega, by omega, by omega, by omega, by omega, by omega, unhide hR', hinv'⟩
              case measure => simp [intOf]; omega
            · have hn : (s[k].toNat : Int) = 9 := by rw [h]; rfl
              clear h
              go_wp2
              go_roundw
              case rel => exact ⟨k + 1, d, 0, start, eq, outs, by omega, by omega, by omega, rfl, rfl, rfl, rfl, by go_num, by omega, by omega, by omega, by omega, by omega, by omega, unhide hR', hinv'⟩
              case measure => simp [intOf]; omega
          · obtain ⟨a, rfl⟩ : ∃ a : Nat, start = (a : Int) := ⟨start.toNat, by omega⟩
            have hinv' : Hid (ScanInv s 0 d (k + 1) (-1) (-1) (outs ++ [((a : Int), (k : Int), eq)])) := ⟨by omega, by omega, by omega, by show allW s = joinW _ (contW 0 _ _ _ _ _ _); rw [contW_zero, ← WStep_flush s k a eq outs hlt hbl, ← contW_zero d _ _ _ _ s.size]; exact hv⟩
            obtain ⟨n1, n2, n3, x1, x2, x3⟩ : (c1 outs).length ≤ 1048576 ∧ (c2 outs).length ≤ 1048576 ∧ (c3 outs).length ≤ 1048576 ∧ (c1 outs).length + 1 ≤ maxLen ∧ (c2 outs).length + 1 ≤ maxLen ∧ (c3 outs).length + 1 ≤ maxLen := by have := c_len outs; unfold maxLen; omega
            have hB := hR.base
            have hR0 : Rows3 w.heap.size 3 w _ _ _ (c1 outs) (c2 outs) (c3 outs) wr := hR
            clear hv hi1 hi2 hi3 hR
            rcases hbl with h | h
            · have hn : (s[k].toNat : Int) = 32 := by rw [h]; rfl
              clear h
              go_wp2_with (at_builtin; refine wpList_append_where _ rfl _ _ 49 rfl w.heap.size 3 i0 (.int .i64 0) 1 8 Tryf.underlying49 hi hz0 hz1 hz2 rfl (by decide) _ (c1 outs).length _ rfl (hR0.own1.alloc _) ⟨wr.heap.size, 0, none⟩ 1 1 [.int .i64 a] rfl rfl (cell_one_new _ _ _) (by simp [Value.oneCell']) x1 (by omega) (by simp; omega) ?_)
              intro v1' w1 hown1 hgrow1 _ hwh1
              have hR1 := (hR0.app _ _ hown1 hgrow1 hwh1).rot
              clear hown1 hgrow1 hwh1 hR0
              have hB1 := hR1.base
              go_wp2_with (at_builtin; refine wpList_append_where _ rfl _ _ 49 rfl w.heap.size 3 i0 (.int .i64 0) 1 8 Tryf.underlying49 hi hz0 hz1 hz2 rfl (by decide) _ (c2 outs).length _ rfl (hR1.own1.alloc _) ⟨w1.heap.size, 0, none⟩ 1 1 [.int .i64 k] rfl rfl (cell_one_new _ _ _) (by simp [Value.oneCell']) x2 (by omega) (by simp; omega) ?_)
              intro v2' w2 hown2 hgrow2 _ hwh2
              have hR2 := (hR1.app _ _ hown2 hgrow2 hwh2).rot
              clear hown2 hgrow2 hwh2 hR1
              have hB2 := hR2.base
              go_wp2_with (at_builtin; refine wpList_append_where _ rfl _ _ 49 rfl w.heap.size 3 i0 (.int .i64 0) 1 8 Tryf.underlying49 hi hz0 hz1 hz2 rfl (by decide) _ (c3 outs).length _ rfl (hR2.own1.alloc _) ⟨w2.heap.size, 0, none⟩ 1 1 [.int .i64 eq] rfl rfl (cell_one_new _ _ _) (by simp [Value.oneCell']) x3 (by omega) (by simp; omega) ?_)
              intro v3' w3 hown3 hgrow3 _ hwh3
              have hR' := hide (ScanRel.push ((a : Int), (k : Int), eq) (hR2.app _ _ hown3 hgrow3 hwh3).rot)
              clear hown3 hgrow3 hwh3 hR2
              go_wp2
              go_roundw
              case rel => exact ⟨k + 1, d, 0, -1, -1, _, by omega, by omega, by omega, rfl, rfl, rfl, rfl, by go_num, by omega, by omega, by omega, by omega, by omega, by simp; omega, unhide hR', hinv'⟩
              case measure => simp [intOf]; omega
            · have hn : (s[k].toNat : Int) = 9 := by rw [h]; rfl
              clear h
              go_wp2_with (at_builtin; refine wpList_append_where _ rfl _ _ 49 rfl w.heap.size 3 i0 (.int .i64 0) 1 8 Tryf.underlying49 hi hz0 hz1 hz2 rfl (by decide) _ (c1 outs).length _ rfl (hR0.own1.alloc _) ⟨wr.heap.size, 0, none⟩ 1 1 [.int .i64 a] rfl rfl (cell_one_new _ _ _) (by simp [Value.oneCell']) x1 (by omega) (by simp; omega) ?_)
              intro v1' w1 hown1 hgrow1 _ hwh1
              have hR1 := (hR0.app _ _ hown1 hgrow1 hwh1).rot
              clear hown1 hgrow1 hwh1 hR0
              have hB1 := hR1.base
              go_wp2_with (at_builtin; refine wpList_append_where _ rfl _ _ 49 rfl w.heap.size 3 i0 (.int .i64 0) 1 8 Tryf.underlying49 hi hz0 hz1 hz2 rfl (by decide) _ (c2 outs).length _ rfl (hR1.own1.alloc _) ⟨w1.heap.size, 0, none⟩ 1 1 [.int .i64 k] rfl rfl (cell_one_new _ _ _) (by simp [Value.oneCell']) x2 (by omega) (by simp; omega) ?_)
              intro v2' w2 hown2 hgrow2 _ hwh2
              have hR2 := (hR1.app _ _ hown2 hgrow2 hwh2).rot
              clear hown2 hgrow2 hwh2 hR1
              have hB2 := hR2.base
              go_wp2_with (at_builtin; refine wpList_append_where _ rfl _ _ 49 rfl w.heap.size 3 i0 (.int .i64 0) 1 8 Tryf.underlying49 hi hz0 hz1 hz2 rfl (by decide) _ (c3 outs).length _ rfl (hR2.own1.alloc _) ⟨w2.heap.size, 0, none⟩ 1 1 [.int .i64 eq] rfl rfl (cell_one_new _ _ _) (by simp [Value.oneCell']) x3 (by omega) (by simp; omega) ?_)
              intro v3' w3 hown3 hgrow3 _ hwh3
              have hR' := hide (ScanRel.push ((a : Int), (k : Int), eq) (hR2.app _ _ hown3 hgrow3 hwh3).rot)
              clear hown3 hgrow3 hwh3 hR2
              go_wp2
              go_roundw
              case rel => exact ⟨k + 1, d, 0, -1, -1, _, by omega, by omega, by omega, rfl, rfl, rfl, rfl, by go_num, by omega, by omega, by omega, by omega, by omega, by simp; omega, unhide hR', hinv'⟩
              case measure => simp [intOf]; omega
        · have hn1 : ((s[k].toNat : Int) == 32) = false := byte_nq (fun h => hbl (.inl h)) (n := 32) (by decide)
          have hn2 : ((s[k].toNat : Int) == 9) = false := byte_nq (fun h => hbl (.inr h)) (n := 9) (by decide)
          have hR' := hide hR
          clear hR
          by_cases h61 : s[k] = 61
          · have hn3 : (s[k].toNat : Int) = 61 := by rw [h61]; rfl
            by_cases heq : eq < 0
            · skip
              by_cases hst : start < 0
              · have h := sc0_eq s k d start eq hlt h61
                rw [if_pos hst, if_pos heq] at h
                have hinv' : Hid (ScanInv s 0 d (k + 1) (k : Int) (k : Int) outs) := ⟨by omega, by omega, by omega, by show allW s = joinW outs (contW 0 _ _ _ _ _ _); rw [← h]; exact hv⟩
                clear hv hi1 hi2 hi3 h h61 hbl hn1 hn2
                go_wp2
                go_roundw
                case rel => exact ⟨k + 1, d, 0, (k : Int), (k : Int), outs, by omega, by omega, by omega, rfl, by go_num, rfl, rfl, by go_num, by omega, by omega, by omega, by omega, by omega, by omega, unhide hR', hinv'⟩
                case measure => simp [intOf]; omega
              · have h := sc0_eq s k d start eq hlt h61
                rw [if_neg hst, if_pos heq] at h
                have hinv' : Hid (ScanInv s 0 d (k + 1) start (k : Int) outs) := ⟨by omega, by omega, by omega, by show allW s = joinW outs (contW 0 _ _ _ _ _ _); rw [← h]; exact hv⟩
                clear hv hi1 hi2 hi3 h h61 hbl hn1 hn2
                go_wp2
                go_roundw
                case rel => exact ⟨k + 1, d, 0, start, (k : Int), outs, by omega, by omega, by omega, rfl, by go_num, rfl, rfl, by go_num, by omega, by omega, by omega, by omega, by omega, by omega, unhide hR', hinv'⟩
                case measure => simp [intOf]; omega
            · skip
              by_cases hst : start < 0
              · have h := sc0_eq s k d start eq hlt h61
                rw [if_pos hst, if_neg heq] at h
                have hinv' : Hid (ScanInv s 0 d (k + 1) (k : Int) eq outs) := ⟨by omega, by omega, by omega, by show allW s = joinW outs (contW 0 _ _ _ _ _ _); rw [← h]; exact hv⟩
                clear hv hi1 hi2 hi3 h h61 hbl hn1 hn2
                go_wp2
                go_roundw
                case rel => exact ⟨k + 1, d, 0, (k : Int), eq, outs, by omega, by omega, by omega, rfl, by go_num, rfl, rfl, by go_num, by omega, by omega, by omega, by omega, by omega, by omega, unhide hR', hinv'⟩
                case measure => simp [intOf]; omega
              · have h := sc0_eq s k d start eq hlt h61
                rw [if_neg hst, if_neg heq] at h
                have hinv' : Hid (ScanInv s 0 d (k + 1) start eq outs) := ⟨by omega, by omega, by omega, by show allW s = joinW outs (contW 0 _ _ _ _ _ _); rw [← h]; exact hv⟩
                clear hv hi1 hi2 hi3 h h61 hbl hn1 hn2
                go_wp2
                go_roundw
                case rel => exact ⟨k + 1, d, 0, start, eq, outs, by omega, by omega, by omega, rfl, by go_num, rfl, rfl, by go_num, by omega, by omega, by omega, by omega, by omega, by omega, unhide hR', hinv'⟩
                case measure => simp [intOf]; omega
          have hn3 : ((s[k].toNat : Int) == 61) = false := byte_nq h61 (n := 61) (by decide)
          by_cases h92 : s[k] = 92
          · have hn4 : (s[k].toNat : Int) = 92 := by rw [h92]; rfl
            by_cases hlt2 : k + 1 < s.size
            · skip
              by_cases hst : start < 0
              · have h := sc0_esc s k d start eq hlt2 h92
                rw [if_pos hst] at h
                have hinv' : Hid (ScanInv s 1 d (k + 1) (k : Int) eq outs) := ⟨by omega, by omega, by omega, by show allW s = joinW outs (contW 1 _ _ _ _ _ _); rw [← h]; exact hv⟩
                clear hv hi1 hi2 hi3 h h61 hbl hn1 hn2 hn3 h92
                go_wp2
                go_roundw
                case rel => exact ⟨k + 1, d, 1, (k : Int), eq, outs, by omega, by omega, by omega, rfl, by go_num, rfl, rfl, by go_num, by omega, by omega, by omega, by omega, by omega, by omega, unhide hR', hinv'⟩
                case measure => simp [intOf]; omega
              · have h := sc0_esc s k d start eq hlt2 h92
                rw [if_neg hst] at h
                have hinv' : Hid (ScanInv s 1 d (k + 1) start eq outs) := ⟨by omega, by omega, by omega, by show allW s = joinW outs (contW 1 _ _ _ _ _ _); rw [← h]; exact hv⟩
                clear hv hi1 hi2 hi3 h h61 hbl hn1 hn2 hn3 h92
                go_wp2
                go_roundw
                case rel => exact ⟨k + 1, d, 1, start, eq, outs, by omega, by omega, by omega, rfl, by go_num, rfl, rfl, by go_num, by omega, by omega, by omega, by omega, by omega, by omega, unhide hR', hinv'⟩
                case measure => simp [intOf]; omega
            · skip
              by_cases hst : start < 0
              · have h := sc0_last s k d start eq hlt hlt2 h92
                rw [if_pos hst] at h
                have hinv' : Hid (ScanInv s 0 d (k + 1) (k : Int) eq outs) := ⟨by omega, by omega, by omega, by show allW s = joinW outs (contW 0 _ _ _ _ _ _); rw [← h]; exact hv⟩
                clear hv hi1 hi2 hi3 h h61 hbl hn1 hn2 hn3 h92
                go_wp2
                go_roundw
                case rel => exact ⟨k + 1, d, 0, (k : Int), eq, outs, by omega, by omega, by omega, rfl, by go_num, rfl, rfl, by go_num, by omega, by omega, by omega, by omega, by omega, by omega, unhide hR', hinv'⟩
                case measure => simp [intOf]; omega
              · have h := sc0_last s k d start eq hlt hlt2 h92
                rw [if_neg hst] at h
                have hinv' : Hid (ScanInv s 0 d (k + 1) start eq outs) := ⟨by omega, by omega, by omega, by show allW s = joinW outs (contW 0 _ _ _ _ _ _); rw [← h]; exact hv⟩
                clear hv hi1 hi2 hi3 h h61 hbl hn1 hn2 hn3 h92
                go_wp2
                go_roundw
                case rel => exact ⟨k + 1, d, 0, start, eq, outs, by omega, by omega, by omega, rfl, by go_num, rfl, rfl, by go_num, by omega, by omega, by omega, by omega, by omega, by omega, unhide hR', hinv'⟩
                case measure => simp [intOf]; omega
          have hn4 : ((s[k].toNat : Int) == 92) = false := byte_nq h92 (n := 92) (by decide)
          by_cases h39 : s[k] = 39
          · have hn5 : (s[k].toNat : Int) = 39 := by rw [h39]; rfl
            by_cases hst : start < 0
            · have h := sc0_sq s k d start eq hlt h39
              rw [if_pos hst] at h
              have hinv' : Hid (ScanInv s 2 d (k + 1) (k : Int) eq outs) := ⟨by omega, by omega, by omega, by show allW s = joinW outs (contW 2 _ _ _ _ _ _); rw [← h]; exact hv⟩
              clear hv hi1 hi2 hi3 h h61 hbl hn1 hn2 hn3 hn4 h92 h39
              go_wp2
              go_roundw
              case rel => exact ⟨k + 1, d, 2, (k : Int), eq, outs, by omega, by omega, by omega, rfl, by go_num, rfl, rfl, by go_num, by omega, by omega, by omega, by omega, by omega, by omega, unhide hR', hinv'⟩
              case measure => simp [intOf]; omega
            · have h := sc0_sq s k d start eq hlt h39
              rw [if_neg hst] at h
              have hinv' : Hid (ScanInv s 2 d (k + 1) start eq outs) := ⟨by omega, by omega, by omega, by show allW s = joinW outs (contW 2 _ _ _ _ _ _); rw [← h]; exact hv⟩
              clear hv hi1 hi2 hi3 h h61 hbl hn1 hn2 hn3 hn4 h92 h39
              go_wp2
              go_roundw
              case rel => exact ⟨k + 1, d, 2, start, eq, outs, by omega, by omega, by omega, rfl, by go_num, rfl, rfl, by go_num, by omega, by omega, by omega, by omega, by omega, by omega, unhide hR', hinv'⟩
              case measure => simp [intOf]; omega
          have hn5 : ((s[k].toNat : Int) == 39) = false := byte_nq h39 (n := 39) (by decide)
          by_cases h34 : s[k] = 34
          · have hn6 : (s[k].toNat : Int) = 34 := by rw [h34]; rfl
            by_cases hst : start < 0
            · have h := sc0_dq s k d start eq hlt h34
              rw [if_pos hst] at h
              have hinv' : Hid (ScanInv s 3 d (k + 1) (k : Int) eq outs) := ⟨by omega, by omega, by omega, by show allW s = joinW outs (contW 3 _ _ _ _ _ _); rw [← h]; exact hv⟩
              clear hv hi1 hi2 hi3 h h61 hbl hn1 hn2 hn3 hn4 hn5 h92 h39 h34
              go_wp2
              go_roundw
              case rel => exact ⟨k + 1, d, 3, (k : Int), eq, outs, by omega, by omega, by omega, rfl, by go_num, rfl, rfl, by go_num, by omega, by omega, by omega, by omega, by omega, by omega, unhide hR', hinv'⟩
              case measure => simp [intOf]; omega
            · have h := sc0_dq s k d start eq hlt h34
              rw [if_neg hst] at h
              have hinv' : Hid (ScanInv s 3 d (k + 1) start eq outs) := ⟨by omega, by omega, by omega, by show allW s = joinW outs (contW 3 _ _ _ _ _ _); rw [← h]; exact hv⟩
              clear hv hi1 hi2 hi3 h h61 hbl hn1 hn2 hn3 hn4 hn5 h92 h39 h34
              go_wp2
              go_roundw
              case rel => exact ⟨k + 1, d, 3, start, eq, outs, by omega, by omega, by omega, rfl, by go_num, rfl, rfl, by go_num, by omega, by omega, by omega, by omega, by omega, by omega, unhide hR', hinv'⟩
              case measure => simp [intOf]; omega
          have hn6 : ((s[k].toNat : Int) == 34) = false := byte_nq h34 (n := 34) (by decide)
          by_cases h36 : s[k] = 36
          · have hn7 : (s[k].toNat : Int) = 36 := by rw [h36]; rfl
            by_cases hlt2 : k + 1 < s.size
            · by_cases h123 : s[k + 1] = 123
              · have hn8 : (s[k + 1].toNat : Int) = 123 := by rw [h123]; rfl
                by_cases hst : start < 0
                · have h := sc0_br s k d start eq hlt2 h36 h123
                  rw [if_pos hst] at h
                  have hinv' : Hid (ScanInv s 5 1 (k + 2) (k : Int) eq outs) := ⟨by omega, by omega, by omega, by show allW s = joinW outs (contW 5 _ _ _ _ _ _); rw [← h]; exact hv⟩
                  clear hv hi1 hi2 hi3 h h61 hbl hn1 hn2 hn3 hn4 hn5 hn6 h92 h39 h34 h36 h123
                  go_wp2
                  go_roundw
                  case rel => exact ⟨k + 2, 1, 5, (k : Int), eq, outs, by omega, by omega, by omega, rfl, by go_num, rfl, rfl, by go_num, by omega, by omega, by omega, by omega, by omega, by omega, unhide hR', hinv'⟩
                  case measure => simp [intOf]; omega
                · have h := sc0_br s k d start eq hlt2 h36 h123
                  rw [if_neg hst] at h
                  have hinv' : Hid (ScanInv s 5 1 (k + 2) start eq outs) := ⟨by omega, by omega, by omega, by show allW s = joinW outs (contW 5 _ _ _ _ _ _); rw [← h]; exact hv⟩
                  clear hv hi1 hi2 hi3 h h61 hbl hn1 hn2 hn3 hn4 hn5 hn6 h92 h39 h34 h36 h123
                  go_wp2
                  go_roundw
                  case rel => exact ⟨k + 2, 1, 5, start, eq, outs, by omega, by omega, by omega, rfl, by go_num, rfl, rfl, by go_num, by omega, by omega, by omega, by omega, by omega, by omega, unhide hR', hinv'⟩
                  case measure => simp [intOf]; omega
              · have hn8 : ((s[k + 1].toNat : Int) == 123) = false := byte_nq h123 (n := 123) (by decide)
                have hnb : ¬ (s[k] = 36 ∧ (s.data.toList.drop (k + 1)).head? = some 123) := by rw [drop_byte s (k + 1) hlt2]; simp [h123]
                by_cases hst : start < 0
                · have h := sc0_else s k d start eq hlt hbl h61 h92 h39 h34 hnb
                  rw [if_pos hst] at h
                  have hinv' : Hid (ScanInv s 0 d (k + 1) (k : Int) eq outs) := ⟨by omega, by omega, by omega, by show allW s = joinW outs (contW 0 _ _ _ _ _ _); rw [← h]; exact hv⟩
                  clear hv hi1 hi2 hi3 h h61 hbl hn1 hn2 hn3 hn4 hn5 hn6 h92 h39 h34 h36 h123 hnb
                  go_wp2
                  go_roundw
                  case rel => exact ⟨k + 1, d, 0, (k : Int), eq, outs, by omega, by omega, by omega, rfl, by go_num, rfl, rfl, by go_num, by omega, by omega, by omega, by omega, by omega, by omega, unhide hR', hinv'⟩
                  case measure => simp [intOf]; omega
                · have h := sc0_else s k d start eq hlt hbl h61 h92 h39 h34 hnb
                  rw [if_neg hst] at h
                  have hinv' : Hid (ScanInv s 0 d (k + 1) start eq outs) := ⟨by omega, by omega, by omega, by show allW s = joinW outs (contW 0 _ _ _ _ _ _); rw [← h]; exact hv⟩
                  clear hv hi1 hi2 hi3 h h61 hbl hn1 hn2 hn3 hn4 hn5 hn6 h92 h39 h34 h36 h123 hnb
                  go_wp2
                  go_roundw
                  case rel => exact ⟨k + 1, d, 0, start, eq, outs, by omega, by omega, by omega, rfl, by go_num, rfl, rfl, by go_num, by omega, by omega, by omega, by omega, by omega, by omega, unhide hR', hinv'⟩
                  case measure => simp [intOf]; omega
            · have hnb : ¬ (s[k] = 36 ∧ (s.data.toList.drop (k + 1)).head? = some 123) := by rw [drop_end s (k + 1) (by omega)]; simp
              by_cases hst : start < 0
              · have h := sc0_else s k d start eq hlt hbl h61 h92 h39 h34 hnb
                rw [if_pos hst] at h
                have hinv' : Hid (ScanInv s 0 d (k + 1) (k : Int) eq outs) := ⟨by omega, by omega, by omega, by show allW s = joinW outs (contW 0 _ _ _ _ _ _); rw [← h]; exact hv⟩
                clear hv hi1 hi2 hi3 h h61 hbl hn1 hn2 hn3 hn4 hn5 hn6 h92 h39 h34 h36 hnb
                go_wp2
                go_roundw
                case rel => exact ⟨k + 1, d, 0, (k : Int), eq, outs, by omega, by omega, by omega, rfl, by go_num, rfl, rfl, by go_num, by omega, by omega, by omega, by omega, by omega, by omega, unhide hR', hinv'⟩
                case measure => simp [intOf]; omega
              · have h := sc0_else s k d start eq hlt hbl h61 h92 h39 h34 hnb
                rw [if_neg hst] at h
                have hinv' : Hid (ScanInv s 0 d (k + 1) start eq outs) := ⟨by omega, by omega, by omega, by show allW s = joinW outs (contW 0 _ _ _ _ _ _); rw [← h]; exact hv⟩
                clear hv hi1 hi2 hi3 h h61 hbl hn1 hn2 hn3 hn4 hn5 hn6 h92 h39 h34 h36 hnb
                go_wp2
                go_roundw
                case rel => exact ⟨k + 1, d, 0, start, eq, outs, by omega, by omega, by omega, rfl, by go_num, rfl, rfl, by go_num, by omega, by omega, by omega, by omega, by omega, by omega, unhide hR', hinv'⟩
                case measure => simp [intOf]; omega
          have hn7 : ((s[k].toNat : Int) == 36) = false := byte_nq h36 (n := 36) (by decide)
          have hnb : ¬ (s[k] = 36 ∧ (s.data.toList.drop (k + 1)).head? = some 123) := fun e => h36 e.1
          by_cases hst : start < 0
          · have h := sc0_else s k d start eq hlt hbl h61 h92 h39 h34 hnb
            rw [if_pos hst] at h
            have hinv' : Hid (ScanInv s 0 d (k + 1) (k : Int) eq outs) := ⟨by omega, by omega, by omega, by show allW s = joinW outs (contW 0 _ _ _ _ _ _); rw [← h]; exact hv⟩
            clear hv hi1 hi2 hi3 h h61 hbl h92 h39 h34 h36 hnb
            go_wp2
            go_roundw
            case rel => exact ⟨k + 1, d, 0, (k : Int), eq, outs, by omega, by omega, by omega, rfl, by go_num, rfl, rfl, by go_num, by omega, by omega, by omega, by omega, by omega, by omega, unhide hR', hinv'⟩
            case measure => simp [intOf]; omega
          · have h := sc0_else s k d start eq hlt hbl h61 h92 h39 h34 hnb
            rw [if_neg hst] at h
            have hinv' : Hid (ScanInv s 0 d (k + 1) start eq outs) := ⟨by omega, by omega, by omega, by show allW s = joinW outs (contW 0 _ _ _ _ _ _); rw [← h]; exact hv⟩
            clear hv hi1 hi2 hi3 h h61 hbl h92 h39 h34 h36 hnb
            go_wp2
            go_roundw
            case rel => exact ⟨k + 1, d, 0, start, eq, outs, by omega, by omega, by omega, rfl, by go_num, rfl, rfl, by go_num, by omega, by omega, by omega, by omega, by omega, by omega, unhide hR', hinv'⟩
            case measure => simp [intOf]; omega
      · have hR' := hide hR
        clear hR
        have hinv' : Hid (ScanInv s 0 d (k + 1) start eq outs) := ⟨by omega, by omega, by omega, by show allW s = joinW outs (contW 0 _ _ _ _ _ _); rw [← sc1 s k d start eq hlt]; exact hv⟩
        clear hv hi1 hi2 hi3 
        go_wp2
        go_roundw
        case rel => exact ⟨k + 1, d, 0, start, eq, outs, by omega, by omega, by omega, rfl, by go_num, rfl, rfl, by go_num, by omega, by omega, by omega, by omega, by omega, by omega, unhide hR', hinv'⟩
        case measure => simp [intOf]; omega
      · have hR' := hide hR
        clear hR
        by_cases h39 : s[k] = 39
        · have hn : (s[k].toNat : Int) = 39 := by rw [h39]; rfl
          have hinv' : Hid (ScanInv s 0 d (k + 1) start eq outs) := ⟨by omega, by omega, by omega, by show allW s = joinW outs (contW 0 _ _ _ _ _ _); rw [← sc2_close s k d start eq hlt h39]; exact hv⟩
          clear hv hi1 hi2 hi3 h39
          go_wp2
          go_roundw
          case rel => exact ⟨k + 1, d, 0, start, eq, outs, by omega, by omega, by omega, rfl, by go_num, rfl, rfl, by go_num, by omega, by omega, by omega, by omega, by omega, by omega, unhide hR', hinv'⟩
          case measure => simp [intOf]; omega
        · have hn : ((s[k].toNat : Int) == 39) = false := byte_nq h39 (n := 39) (by decide)
          have hinv' : Hid (ScanInv s 2 d (k + 1) start eq outs) := ⟨by omega, by omega, by omega, by show allW s = joinW outs (contW 2 _ _ _ _ _ _); rw [← sc2_else s k d start eq hlt h39]; exact hv⟩
          clear hv hi1 hi2 hi3 h39
          go_wp2
          go_roundw
          case rel => exact ⟨k + 1, d, 2, start, eq, outs, by omega, by omega, by omega, rfl, by go_num, rfl, rfl, by go_num, by omega, by omega, by omega, by omega, by omega, by omega, unhide hR', hinv'⟩
          case measure => simp [intOf]; omega
      · have hR' := hide hR
        clear hR
        by_cases h92 : s[k] = 92
        · have hn : (s[k].toNat : Int) = 92 := by rw [h92]; rfl
          have hinv' : Hid (ScanInv s 4 d (k + 1) start eq outs) := ⟨by omega, by omega, by omega, by show allW s = joinW outs (contW 4 _ _ _ _ _ _); rw [← sc3_esc s k d start eq hlt h92]; exact hv⟩
          clear hv hi1 hi2 hi3 h92
          go_wp2
          go_roundw
          case rel => exact ⟨k + 1, d, 4, start, eq, outs, by omega, by omega, by omega, rfl, by go_num, rfl, rfl, by go_num, by omega, by omega, by omega, by omega, by omega, by omega, unhide hR', hinv'⟩
          case measure => simp [intOf]; omega
        · have hn : ((s[k].toNat : Int) == 92) = false := byte_nq h92 (n := 92) (by decide)
          by_cases h34 : s[k] = 34
          · have hn2 : (s[k].toNat : Int) = 34 := by rw [h34]; rfl
            have hinv' : Hid (ScanInv s 0 d (k + 1) start eq outs) := ⟨by omega, by omega, by omega, by show allW s = joinW outs (contW 0 _ _ _ _ _ _); rw [← sc3_close s k d start eq hlt h34]; exact hv⟩
            clear hv hi1 hi2 hi3 h92 h34 hn
            go_wp2
            go_roundw
            case rel => exact ⟨k + 1, d, 0, start, eq, outs, by omega, by omega, by omega, rfl, by go_num, rfl, rfl, by go_num, by omega, by omega, by omega, by omega, by omega, by omega, unhide hR', hinv'⟩
            case measure => simp [intOf]; omega
          · have hn2 : ((s[k].toNat : Int) == 34) = false := byte_nq h34 (n := 34) (by decide)
            have hinv' : Hid (ScanInv s 3 d (k + 1) start eq outs) := ⟨by omega, by omega, by omega, by show allW s = joinW outs (contW 3 _ _ _ _ _ _); rw [← sc3_else s k d start eq hlt h92 h34]; exact hv⟩
            clear hv hi1 hi2 hi3 h92 h34
            go_wp2
            go_roundw
            case rel => exact ⟨k + 1, d, 3, start, eq, outs, by omega, by omega, by omega, rfl, by go_num, rfl, rfl, by go_num, by omega, by omega, by omega, by omega, by omega, by omega, unhide hR', hinv'⟩
            case measure => simp [intOf]; omega
      · have hR' := hide hR
        clear hR
        have hinv' : Hid (ScanInv s 3 d (k + 1) start eq outs) := ⟨by omega, by omega, by omega, by show allW s = joinW outs (contW 3 _ _ _ _ _ _); rw [← sc4 s k d start eq hlt]; exact hv⟩
        clear hv hi1 hi2 hi3 
        go_wp2
        go_roundw
        case rel => exact ⟨k + 1, d, 3, start, eq, outs, by omega, by omega, by omega, rfl, by go_num, rfl, rfl, by go_num, by omega, by omega, by omega, by omega, by omega, by omega, unhide hR', hinv'⟩
        case measure => simp [intOf]; omega
      · have hR' := hide hR
        clear hR
        have hd1 : 1 ≤ d := hi1 (by omega)
        by_cases h92 : s[k] = 92
        · have hn : (s[k].toNat : Int) = 92 := by rw [h92]; rfl
          have hinv' : Hid (ScanInv s 6 d (k + 1) start eq outs) := ⟨by omega, by omega, by omega, by show allW s = joinW outs (contW 6 _ _ _ _ _ _); rw [← sc5_esc s k d start eq hlt h92]; exact hv⟩
          clear hv hi1 hi2 hi3 h92
          go_wp2
          go_roundw
          case rel => exact ⟨k + 1, d, 6, start, eq, outs, by omega, by omega, by omega, rfl, by go_num, rfl, rfl, by go_num, by omega, by omega, by omega, by omega, by omega, by omega, unhide hR', hinv'⟩
          case measure => simp [intOf]; omega
        · have hn : ((s[k].toNat : Int) == 92) = false := byte_nq h92 (n := 92) (by decide)
          by_cases h36 : s[k] = 36
          · have hn2 : (s[k].toNat : Int) = 36 := by rw [h36]; rfl
            have h125 : s[k] ≠ 125 := by rw [h36]; decide
            by_cases hlt2 : k + 1 < s.size
            · by_cases h123 : s[k + 1] = 123
              · have hn8 : (s[k + 1].toNat : Int) = 123 := by rw [h123]; rfl
                have hinv' : Hid (ScanInv s 5 (d + 1) (k + 2) start eq outs) := ⟨by omega, by omega, by omega, by show allW s = joinW outs (contW 5 _ _ _ _ _ _); rw [← sc5_open s k d start eq hlt2 h36 h123]; exact hv⟩
                clear hv hi1 hi2 hi3 h92 h36 h125 h123 hn
                go_wp2
                go_roundw
                case rel => exact ⟨k + 2, (d + 1), 5, start, eq, outs, by omega, by omega, by omega, rfl, by go_num, rfl, rfl, by go_num, by omega, by omega, by omega, by omega, by omega, by omega, unhide hR', hinv'⟩
                case measure => simp [intOf]; omega
              · have hn8 : ((s[k + 1].toNat : Int) == 123) = false := byte_nq h123 (n := 123) (by decide)
                have hnb : ¬ (s[k] = 36 ∧ (s.data.toList.drop (k + 1)).head? = some 123) := by rw [drop_byte s (k + 1) hlt2]; simp [h123]
                have hinv' : Hid (ScanInv s 5 d (k + 1) start eq outs) := ⟨by omega, by omega, by omega, by show allW s = joinW outs (contW 5 _ _ _ _ _ _); rw [← sc5_else s k d start eq hlt h92 hnb h125]; exact hv⟩
                clear hv hi1 hi2 hi3 h92 h36 h125 h123 hnb hn
                go_wp2
                go_roundw
                case rel => exact ⟨k + 1, d, 5, start, eq, outs, by omega, by omega, by omega, rfl, by go_num, rfl, rfl, by go_num, by omega, by omega, by omega, by omega, by omega, by omega, unhide hR', hinv'⟩
                case measure => simp [intOf]; omega
            · have hnb : ¬ (s[k] = 36 ∧ (s.data.toList.drop (k + 1)).head? = some 123) := by rw [drop_end s (k + 1) (by omega)]; simp
              have hinv' : Hid (ScanInv s 5 d (k + 1) start eq outs) := ⟨by omega, by omega, by omega, by show allW s = joinW outs (contW 5 _ _ _ _ _ _); rw [← sc5_else s k d start eq hlt h92 hnb h125]; exact hv⟩
              clear hv hi1 hi2 hi3 h92 h36 h125 hnb hn
              go_wp2
              go_roundw
              case rel => exact ⟨k + 1, d, 5, start, eq, outs, by omega, by omega, by omega, rfl, by go_num, rfl, rfl, by go_num, by omega, by omega, by omega, by omega, by omega, by omega, unhide hR', hinv'⟩
              case measure => simp [intOf]; omega
          · have hn2 : ((s[k].toNat : Int) == 36) = false := byte_nq h36 (n := 36) (by decide)
            have hnb : ¬ (s[k] = 36 ∧ (s.data.toList.drop (k + 1)).head? = some 123) := fun e => h36 e.1
            by_cases h125 : s[k] = 125
            · have hn3 : (s[k].toNat : Int) = 125 := by rw [h125]; rfl
              by_cases hd2 : d = 1
              · subst hd2
                have hinv' : Hid (ScanInv s 0 0 (k + 1) start eq outs) := ⟨by omega, by omega, by omega, by show allW s = joinW outs (contW 0 _ _ _ _ _ _); rw [← sc5_close s k start eq hlt h125]; exact hv⟩
                clear hv hi1 hi2 hi3 h92 h36 h125 hnb hn hn2
                go_wp2
                go_roundw
                case rel => exact ⟨k + 1, 0, 0, start, eq, outs, by omega, by omega, by omega, rfl, by go_num, rfl, rfl, by go_num, by omega, by omega, by omega, by omega, by omega, by omega, unhide hR', hinv'⟩
                case measure => simp [intOf]; omega
              · skip
                have hinv' : Hid (ScanInv s 5 (d - 1) (k + 1) start eq outs) := ⟨by omega, by omega, by omega, by show allW s = joinW outs (contW 5 _ _ _ _ _ _); rw [← sc5_less s k d start eq hlt h125 hd2]; exact hv⟩
                clear hv hi1 hi2 hi3 h92 h36 h125 hnb hn hn2
                go_wp2
                go_roundw
                case rel => exact ⟨k + 1, (d - 1), 5, start, eq, outs, by omega, by omega, by omega, rfl, by go_num, rfl, rfl, by go_num, by omega, by omega, by omega, by omega, by omega, by omega, unhide hR', hinv'⟩
                case measure => simp [intOf]; omega
            · have hn3 : ((s[k].toNat : Int) == 125) = false := byte_nq h125 (n := 125) (by decide)
              have hinv' : Hid (ScanInv s 5 d (k + 1) start eq outs) := ⟨by omega, by omega, by omega, by show allW s = joinW outs (contW 5 _ _ _ _ _ _); rw [← sc5_else s k d start eq hlt h92 hnb h125]; exact hv⟩
              clear hv hi1 hi2 hi3 h92 h36 h125 hnb
              go_wp2
              go_roundw
              case rel => exact ⟨k + 1, d, 5, start, eq, outs, by omega, by omega, by omega, rfl, by go_num, rfl, rfl, by go_num, by omega, by omega, by omega, by omega, by omega, by omega, unhide hR', hinv'⟩
              case measure => simp [intOf]; omega
      · have hR' := hide hR
        clear hR
        have hd1 : 1 ≤ d := hi1 (by omega)
        have hinv' : Hid (ScanInv s 5 d (k + 1) start eq outs) := ⟨by omega, by omega, by omega, by show allW s = joinW outs (contW 5 _ _ _ _ _ _); rw [← sc6 s k d start eq hlt]; exact hv⟩
        clear hv hi1 hi2 hi3 
        go_wp2
        go_roundw
        case rel => exact ⟨k + 1, d, 5, start, eq, outs, by omega, by omega, by omega, rfl, by go_num, rfl, rfl, by go_num, by omega, by omega, by omega, by omega, by omega, by omega, unhide hR', hinv'⟩
        case measure => simp [intOf]; omega
    · have hks : s.size = k := by omega
      subst hks
      by_cases hz : st = 0
      · subst hz
        have hv : allW s = joinW outs (contW 0 d s.size start eq (s.data.toList.drop s.size) s.size) := hv
        rw [sc_end0 s s.size d start eq rfl] at hv
        by_cases hst : start < 0
        · have hfin : Hid (allW s = (outs, true)) := by rw [hv, if_neg (by omega)]; simp [joinW, Hid]
          have hR' := hide hR
          clear hv hi1 hi2 hi3 hR
          go_wp2
          exact bodyPost_ret (v := .tuple #[_, _, _, .bool true]) (by simp [results, Tryf.results30]) rfl (ScanPost.mk (unhide hfin) (unhide hR'))
        · obtain ⟨a, rfl⟩ : ∃ a : Nat, start = (a : Int) := ⟨start.toNat, by omega⟩
          have hfin : Hid (allW s = (outs ++ [((a : Int), (s.size : Int), eq)], true)) := by rw [hv, if_pos (by omega)]; simp [joinW, Hid]
          obtain ⟨n1, n2, n3, x1, x2, x3⟩ : (c1 outs).length ≤ 1048576 ∧ (c2 outs).length ≤ 1048576 ∧ (c3 outs).length ≤ 1048576 ∧ (c1 outs).length + 1 ≤ maxLen ∧ (c2 outs).length + 1 ≤ maxLen ∧ (c3 outs).length + 1 ≤ maxLen := by have := c_len outs; unfold maxLen; omega
          have hB := hR.base
          have hR0 : Rows3 w.heap.size 3 w _ _ _ (c1 outs) (c2 outs) (c3 outs) wr := hR
          clear hv hi1 hi2 hi3 hR
          go_wp2_with (at_builtin; refine wpList_append_where _ rfl _ _ 49 rfl w.heap.size 3 i0 (.int .i64 0) 1 8 Tryf.underlying49 hi hz0 hz1 hz2 rfl (by decide) _ (c1 outs).length _ rfl (hR0.own1.alloc _) ⟨wr.heap.size, 0, none⟩ 1 1 [.int .i64 a] rfl rfl (cell_one_new _ _ _) (by simp [Value.oneCell']) x1 (by omega) (by simp; omega) ?_)
          intro v1' w1 hown1 hgrow1 _ hwh1
          have hR1 := (hR0.app _ _ hown1 hgrow1 hwh1).rot
          clear hown1 hgrow1 hwh1 hR0
          have hB1 := hR1.base
          go_wp2_with (at_builtin; refine wpList_append_where _ rfl _ _ 49 rfl w.heap.size 3 i0 (.int .i64 0) 1 8 Tryf.underlying49 hi hz0 hz1 hz2 rfl (by decide) _ (c2 outs).length _ rfl (hR1.own1.alloc _) ⟨w1.heap.size, 0, none⟩ 1 1 [.int .i64 s.size] rfl rfl (cell_one_new _ _ _) (by simp [Value.oneCell']) x2 (by omega) (by simp; omega) ?_)
          intro v2' w2 hown2 hgrow2 _ hwh2
          have hR2 := (hR1.app _ _ hown2 hgrow2 hwh2).rot
          clear hown2 hgrow2 hwh2 hR1
          have hB2 := hR2.base
          go_wp2_with (at_builtin; refine wpList_append_where _ rfl _ _ 49 rfl w.heap.size 3 i0 (.int .i64 0) 1 8 Tryf.underlying49 hi hz0 hz1 hz2 rfl (by decide) _ (c3 outs).length _ rfl (hR2.own1.alloc _) ⟨w2.heap.size, 0, none⟩ 1 1 [.int .i64 eq] rfl rfl (cell_one_new _ _ _) (by simp [Value.oneCell']) x3 (by omega) (by simp; omega) ?_)
          intro v3' w3 hown3 hgrow3 _ hwh3
          have hR' := hide (ScanRel.push ((a : Int), (s.size : Int), eq) (hR2.app _ _ hown3 hgrow3 hwh3).rot)
          clear hown3 hgrow3 hwh3 hR2
          go_wp2
          exact bodyPost_ret (v := .tuple #[v1', v2', v3', .bool true]) (by simp [results, Tryf.results30]) rfl (ScanPost.mk (unhide hfin) (unhide hR'))
      · have h1 : st ≠ 1 := fun e => by have := hi3 e; omega
        have h0 := hi2 hz
        rw [sc_end s s.size d start eq st.toNat rfl (by omega) (by omega)] at hv
        obtain ⟨a, rfl⟩ : ∃ a : Nat, start = (a : Int) := ⟨start.toNat, by omega⟩
        have hfin : Hid (allW s = (outs ++ [((a : Int), (s.size : Int), eq)], false)) := by rw [hv]; simp [joinW, Hid]
        have hzb : (st == 0) = false := beq_eq_false_iff_ne.2 hz
        obtain ⟨n1, n2, n3, x1, x2, x3⟩ : (c1 outs).length ≤ 1048576 ∧ (c2 outs).length ≤ 1048576 ∧ (c3 outs).length ≤ 1048576 ∧ (c1 outs).length + 1 ≤ maxLen ∧ (c2 outs).length + 1 ≤ maxLen ∧ (c3 outs).length + 1 ≤ maxLen := by have := c_len outs; unfold maxLen; omega
        have hB := hR.base
        have hR0 : Rows3 w.heap.size 3 w _ _ _ (c1 outs) (c2 outs) (c3 outs) wr := hR
        clear hv hi1 hi2 hi3 hR hz h1
        go_wp2_with (at_builtin; refine wpList_append_where _ rfl _ _ 49 rfl w.heap.size 3 i0 (.int .i64 0) 1 8 Tryf.underlying49 hi hz0 hz1 hz2 rfl (by decide) _ (c1 outs).length _ rfl (hR0.own1.alloc _) ⟨wr.heap.size, 0, none⟩ 1 1 [.int .i64 a] rfl rfl (cell_one_new _ _ _) (by simp [Value.oneCell']) x1 (by omega) (by simp; omega) ?_)
        intro v1' w1 hown1 hgrow1 _ hwh1
        have hR1 := (hR0.app _ _ hown1 hgrow1 hwh1).rot
        clear hown1 hgrow1 hwh1 hR0
        have hB1 := hR1.base
        go_wp2_with (at_builtin; refine wpList_append_where _ rfl _ _ 49 rfl w.heap.size 3 i0 (.int .i64 0) 1 8 Tryf.underlying49 hi hz0 hz1 hz2 rfl (by decide) _ (c2 outs).length _ rfl (hR1.own1.alloc _) ⟨w1.heap.size, 0, none⟩ 1 1 [.int .i64 s.size] rfl rfl (cell_one_new _ _ _) (by simp [Value.oneCell']) x2 (by omega) (by simp; omega) ?_)
        intro v2' w2 hown2 hgrow2 _ hwh2
        have hR2 := (hR1.app _ _ hown2 hgrow2 hwh2).rot
        clear hown2 hgrow2 hwh2 hR1
        have hB2 := hR2.base
        go_wp2_with (at_builtin; refine wpList_append_where _ rfl _ _ 49 rfl w.heap.size 3 i0 (.int .i64 0) 1 8 Tryf.underlying49 hi hz0 hz1 hz2 rfl (by decide) _ (c3 outs).length _ rfl (hR2.own1.alloc _) ⟨w2.heap.size, 0, none⟩ 1 1 [.int .i64 eq] rfl rfl (cell_one_new _ _ _) (by simp [Value.oneCell']) x3 (by omega) (by simp; omega) ?_)
        intro v3' w3 hown3 hgrow3 _ hwh3
        have hR' := hide (ScanRel.push ((a : Int), (s.size : Int), eq) (hR2.app _ _ hown3 hgrow3 hwh3).rot)
        clear hown3 hgrow3 hwh3 hR2
        go_wp2
        exact bodyPost_ret (v := .tuple #[v1', v2', v3', .bool false]) (by simp [results, Tryf.results30]) rfl (ScanPost.mk (unhide hfin) (unhide hR'))
end Go.Proofs.Qxb6609067aFmt
