import Derived.Test.Qxb6609067aFmtClone
namespace Go.Proofs.Qxb6609067aFmt
open Go.RowKit

/-- The clone: the same strings in new memory; nil stays nil. -/
def ClonePost (xs : List ByteArray) (nl : Bool) (w : World) (e : Ending) (w' : World) : Prop :=
  ∃ v, e = .returned v ∧ StrS w' v xs ∧ isNilS v = nl ∧ Below w.heap.size w w' ∧ ∀ k, v.ownBlock = some k → w.heap.size ≤ k ∧ k < w'.heap.size

theorem clone_any (v : Value) (xs : List ByteArray) (w : World) (h : StrS w v xs) (hn : xs.length ≤ 1048576) : Calls Tryf.prog 9 #[v] w (ClonePost xs (isNilS v) w) := by
  obtain ⟨a, c, rfl, hc, hnil, hcell⟩ := h
  cases a with
  | none =>
    obtain ⟨rfl, rfl⟩ := hnil rfl
    refine (clone_nil w).mono ?_
    rintro e w' ⟨rfl, rfl⟩
    exact ⟨_, rfl, StrS.nil _, rfl, Below.refl _ _, by simp [Value.ownBlock]⟩
  | some ad =>
    refine (clone_some ad xs.length c xs w ⟨_, c, rfl, hc, hnil, hcell⟩ hn).mono ?_
    rintro e w' ⟨g, rfl, hg, hg', hs, hb⟩
    exact ⟨_, rfl, hs, rfl, hb, by simp [Value.ownBlock]; omega⟩

/-- The old names and values, in new memory. -/
def OldPost (xs ys : List ByteArray) (w : World) (e : Ending) (w' : World) : Prop :=
  ∃ v1 v2, e = .returned (.tuple #[v1, v2]) ∧ StrS w' v1 xs ∧ StrS w' v2 (padL ys xs.length) ∧ Below w.heap.size w w'

set_option maxHeartbeats 1000000 in
theorem old_any (a1 a2 : Option Addr) (n1 n2 c1 c2 : Nat) (xs ys : List ByteArray) (w : World) (h1 : StrS w (.slice a1 n1 c1) xs) (h2 : StrS w (.slice a2 n2 c2) ys) (hn1 : n1 ≤ 1048576) :
    Calls Tryf.prog 10 #[.slice a1 n1 c1, .slice a2 n2 c2] w (OldPost xs ys w) := by
  obtain ⟨q1, _, _, hc1⟩ := h1.some_cases
  obtain ⟨q2, _, _, hc2⟩ := h2.some_cases
  have l1 := hide q1
  have l2 := hide q2
  have hp : Hid (∀ k, k < n1 → (padL ys n1)[k]? = some (ys[k]?.getD ⟨#[]⟩)) := fun k hk => padL_at _ _ _ hk
  clear h1 h2 q1 q2
  obtain ⟨i0, hi, hz0, hz1, hz2⟩ := info_parts Tryf.info9
  have hb2 : i0.bytes * n1 ≤ 281474976710656 := by rw [hz2]; omega
  have hmx : n1 ≤ maxLen := by unfold maxLen; omega
  go_enter Tryf.func10, Tryf.ntmps10
  go_wp2_with (at_make; refine wpList_make_full _ rfl _ _ 22 rfl w.heap.size 9 i0 (.string ⟨#[]⟩) 1 Tryf.underlying22 hi hz0 hz1 _ _ _ _ n1 rfl rfl rfl rfl hb2 hmx (Nat.le_refl _) ?_)
  intro w1 hown1 hgrow1
  have hsz1 : w.heap.size < w1.heap.size := (hown1.lt _ rfl).2
  go_wp2_with (at_make; refine wpList_make_full _ rfl _ _ 22 rfl w.heap.size 9 i0 (.string ⟨#[]⟩) 1 Tryf.underlying22 hi hz0 hz1 _ _ _ _ n1 rfl rfl rfl rfl hb2 hmx (by omega) ?_)
  intro w2 hown2 hgrow2
  have hown1' := hown1.kept hgrow2 (by simp [Value.ownBlock])
  have hst : Hid (w2.ownsRow w.heap.size 9 1 (.slice (some ⟨w.heap.size, 0, none⟩) n1 n1) n1 (fillL (.string ⟨#[]⟩) (xs.map Value.string) 0 n1) ∧
      w2.ownsRow w.heap.size 9 1 (.slice (some ⟨w1.heap.size, 0, none⟩) n1 n1) n1 (fillL (.string ⟨#[]⟩) ((padL ys n1).map Value.string) 0 n1) ∧ Below w.heap.size w w2) := by
    refine ⟨?_, ?_, ?_⟩
    · rw [fillL_zero]; simpa [Value.cells, toList_madeCells_one] using hown1'
    · rw [fillL_zero]; simpa [Value.cells, toList_madeCells_one] using hown2
    · exact ((Below.refl _ w).grown hgrow1 (Nat.le_refl _) (by simp)).grown hgrow2 (by omega) (by simp)
  clear hown1 hown2 hgrow1 hgrow2 hown1'
  go_wp2
  go_loopw [8] (fun i wr => ∃ k : Nat, k ≤ n1 ∧ i = .int .i64 k ∧ wr.ownsRow w.heap.size 9 1 (.slice (some ⟨w.heap.size, 0, none⟩) n1 n1) n1 (fillL (.string ⟨#[]⟩) (xs.map Value.string) k n1) ∧
      wr.ownsRow w.heap.size 9 1 (.slice (some ⟨w1.heap.size, 0, none⟩) n1 n1) n1 (fillL (.string ⟨#[]⟩) ((padL ys n1).map Value.string) k n1) ∧ Below w.heap.size w wr) (fun i _ => n1 - (intOf i).toNat)
  case atStart => exact ⟨0, Nat.zero_le _, rfl, (unhide hst).1, (unhide hst).2.1, (unhide hst).2.2⟩
  case round =>
    obtain ⟨k, hk, rfl, hr1, hr2, hbel⟩ := hrel
    clear hst
    by_cases hlt : k < n1
    · obtain ⟨s, hs⟩ : ∃ s, xs[k]? = some s := ⟨xs[k]'(by have := unhide l1; omega), by simp⟩
      obtain ⟨b, o, he, hcl⟩ := hc1 k s hs
      have hb := World.block_lt_of_cell? w _ hcl
      cases he
      have hx1 : wr.cell? ⟨b, o + k, none⟩ = some (.string s) := by rw [hbel.cell hb]; exact hcl
      have hx2 : wr.cell? ⟨w.heap.size, k, none⟩ = some (.string ⟨#[]⟩) := by rw [hr1.cellAt k (by omega)]; exact fillL_at _ _ _ _ (by simp [unhide l1]) hlt
      have hf2 := hr1.frozenAt k
      have hst := hr1.stored k (.string s)
      rw [fillL_set _ _ _ _ (by simp [unhide l1]) hlt _ (by simp [hs])] at hst
      have hm1 := hst.1
      have hm2 := own_other (j := k) hr2 (g' := w.heap.size) (by omega) (.string s)
      have hb' := hbel.setCell (p := ⟨w.heap.size, k, none⟩) (Nat.le_refl _) (.string s)
      have hpk := unhide hp k hlt
      by_cases hlt2 : k < n2
      · obtain ⟨s2, hs2⟩ : ∃ s, ys[k]? = some s := ⟨ys[k]'(by have := unhide l2; omega), by simp⟩
        obtain ⟨b2, o2, he2, hcl2⟩ := hc2 k s2 hs2
        have hb2' := World.block_lt_of_cell? w _ hcl2
        cases he2
        rw [hs2] at hpk
        have hy1 : (wr.setCell ⟨w.heap.size, k, none⟩ (.string s)).cell? ⟨b2, o2 + k, none⟩ = some (.string s2) := by rw [hb'.cell hb2']; exact hcl2
        have hy2 : (wr.setCell ⟨w.heap.size, k, none⟩ (.string s)).cell? ⟨w1.heap.size, k, none⟩ = some (.string ⟨#[]⟩) := by rw [hm2.cellAt k (by omega)]; exact fillL_at _ _ _ _ (by simp [padL_length]) hlt
        have hy3 := hm2.frozenAt k
        have hst2 := hm2.stored k (.string s2)
        rw [fillL_set _ _ _ _ (by simp [padL_length]) hlt _ (by simp [hpk])] at hst2
        have R1 := hide (own_other (j := k) hm1 (g' := w1.heap.size) (by omega) (.string s2))
        have R2 := hide hst2.1
        have R3 := hide (hb'.setCell (p := ⟨w1.heap.size, k, none⟩) (by simp only; omega) (.string s2))
        clear hst hst2 hm1 hm2 hb' hr1 hr2 hs hs2 hpk hc1 hc2
        go_wp2
        go_roundw
        case rel => exact ⟨k + 1, by omega, by go_num, unhide R1, unhide R2, unhide R3⟩
        case measure => simp [intOf]; omega
      · have hnone : ys[k]? = none := by have := unhide l2; simp; omega
        rw [hnone] at hpk
        have hsame : fillL (.string ⟨#[]⟩) ((padL ys n1).map Value.string) (k + 1) n1 = fillL (.string ⟨#[]⟩) ((padL ys n1).map Value.string) k n1 := by
          rw [← fillL_set _ _ _ _ (by simp [padL_length]) hlt (.string ⟨#[]⟩) (by simp [hpk])]
          obtain ⟨hq, hq'⟩ := List.getElem?_eq_some_iff.1 (fillL_at (.string ⟨#[]⟩) ((padL ys n1).map Value.string) k n1 (by simp [padL_length]) hlt)
          have hq2 := List.set_getElem_self hq
          rw [hq'] at hq2
          exact hq2
        rw [← hsame] at hm2
        have R1 := hide hm1
        have R2 := hide hm2
        have R3 := hide hb'
        clear hst hm1 hm2 hb' hr1 hr2 hs hpk hc1 hc2 hsame hnone
        go_wp2
        go_roundw
        case rel => exact ⟨k + 1, by omega, by go_num, unhide R1, unhide R2, unhide R3⟩
        case measure => simp [intOf]; omega
    · go_wp2
      go_ret2
      have : k = n1 := by omega
      subst this
      have e1 := unhide l1
      rw [fillL_full _ _ _ (by simp [e1])] at hr1
      rw [fillL_full _ _ _ (by simp [padL_length])] at hr2
      exact ⟨_, _, rfl, StrS.own hr1, by rw [e1]; exact StrS.own hr2, hbel⟩
end Go.Proofs.Qxb6609067aFmt
