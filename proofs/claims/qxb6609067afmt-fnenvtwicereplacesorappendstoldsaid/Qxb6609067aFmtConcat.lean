import Derived.Test.Qxb6609067aFmtOld
namespace Go.Proofs.Qxb6609067aFmt
open Go.RowKit

/-- One list behind the other, in new memory. -/
def ConcatPost (xs : List ByteArray) (w : World) (e : Ending) (w' : World) : Prop :=
  ∃ v, e = .returned v ∧ StrS w' v xs ∧ isNilS v = false ∧ Below w.heap.size w w' ∧ ∀ g, v.ownBlock = some g → w.heap.size ≤ g

set_option maxHeartbeats 1000000 in
theorem concat_any (a1 a2 : Option Addr) (n1 n2 c1 c2 : Nat) (xs ys : List ByteArray) (w : World) (h1 : StrS w (.slice a1 n1 c1) xs) (h2 : StrS w (.slice a2 n2 c2) ys) (hn1 : n1 ≤ 104857600) (hn2 : n2 ≤ 104857600) :
    Calls Tryf.prog 18 #[.slice a1 n1 c1, .slice a2 n2 c2] w (ConcatPost (xs ++ ys) w) := by
  obtain ⟨q1, _, _, hc1⟩ := h1.some_cases
  obtain ⟨q2, _, _, hc2⟩ := h2.some_cases
  have l1 := hide q1
  have l2 := hide q2
  have hl : Hid (((xs ++ ys).map Value.string).length = n1 + n2) := by simp [Hid, q1, q2]
  have hat1 : Hid (∀ k s, xs[k]? = some s → ((xs ++ ys).map Value.string)[k]? = some (Value.string s)) := fun k s hs => by
    have := (List.getElem?_eq_some_iff.1 hs).1
    rw [List.getElem?_map, List.getElem?_append_left this, hs]
    rfl
  have hat2 : Hid (∀ k s, ys[k]? = some s → ((xs ++ ys).map Value.string)[n1 + k]? = some (Value.string s)) := fun k s hs => by
    rw [← q1, List.map_append, List.getElem?_append_right (by simp)]
    simp [hs]
  clear h1 h2 q1 q2
  obtain ⟨i0, hi, hz0, hz1, hz2⟩ := info_parts Tryf.info9
  have hb2 : i0.bytes * (n1 + n2) ≤ 281474976710656 := by rw [hz2]; omega
  have hmx : n1 + n2 ≤ maxLen := by unfold maxLen; omega
  go_enter Tryf.func18, Tryf.ntmps18
  go_wp2_with (at_make; refine wpList_make_full _ rfl _ _ 22 rfl w.heap.size 9 i0 (.string ⟨#[]⟩) 1 Tryf.underlying22 hi hz0 hz1 _ _ _ _ (n1 + n2) rfl rfl (by omega) (by omega) hb2 hmx (Nat.le_refl _) ?_)
  intro w1 hown1 hgrow1
  have hst : Hid (w1.ownsRow w.heap.size 9 1 (.slice (some ⟨w.heap.size, 0, none⟩) (n1 + n2) (n1 + n2)) (n1 + n2) (fillL (.string ⟨#[]⟩) ((xs ++ ys).map Value.string) 0 (n1 + n2)) ∧ Below w.heap.size w w1) := by
    refine ⟨?_, (Below.refl _ w).grown hgrow1 (Nat.le_refl _) (by simp)⟩
    rw [fillL_zero]; simpa [Value.cells, toList_madeCells_one] using hown1
  clear hown1 hgrow1
  go_wp2
  go_loopw [6] (fun i wr => ∃ k : Nat, k ≤ n1 ∧ i = .int .i64 k ∧ wr.ownsRow w.heap.size 9 1 (.slice (some ⟨w.heap.size, 0, none⟩) (n1 + n2) (n1 + n2)) (n1 + n2) (fillL (.string ⟨#[]⟩) ((xs ++ ys).map Value.string) k (n1 + n2)) ∧ Below w.heap.size w wr) (fun i _ => n1 - (intOf i).toNat)
  case atStart => exact ⟨0, Nat.zero_le _, rfl, (unhide hst).1, (unhide hst).2⟩
  case round =>
    obtain ⟨k, hk, rfl, hr1, hbel⟩ := hrel
    clear hst
    by_cases hlt : k < n1
    · obtain ⟨s, hs⟩ : ∃ s, xs[k]? = some s := ⟨xs[k]'(by have := unhide l1; omega), by simp⟩
      obtain ⟨b, o, he, hcl⟩ := hc1 k s hs
      have hb := World.block_lt_of_cell? w _ hcl
      cases he
      have hx1 : wr.cell? ⟨b, o + k, none⟩ = some (.string s) := by rw [hbel.cell hb]; exact hcl
      have hx2 : wr.cell? ⟨w.heap.size, k, none⟩ = some (.string ⟨#[]⟩) := by rw [hr1.cellAt k (by omega)]; exact fillL_at _ _ _ _ (unhide hl) (by omega)
      have hf2 := hr1.frozenAt k
      have hst := hr1.stored k (.string s)
      rw [fillL_set _ _ _ _ (unhide hl) (by omega) _ (unhide hat1 k s hs)] at hst
      have R1 := hide hst.1
      have R3 := hide (hbel.setCell (p := ⟨w.heap.size, k, none⟩) (Nat.le_refl _) (.string s))
      clear hst hr1 hs hc1 hc2
      go_wp2
      go_roundw
      case rel => exact ⟨k + 1, by omega, by go_num, unhide R1, unhide R3⟩
      case measure => simp [intOf]; omega
    · have hkn : k = n1 := by omega
      subst hkn
      have S1 := hide hr1
      have S2 := hide hbel
      clear hr1 hbel
      go_wp2
      go_loopw [7] (fun i wr => ∃ j : Nat, j ≤ n2 ∧ i = .int .i64 j ∧ wr.ownsRow w.heap.size 9 1 (.slice (some ⟨w.heap.size, 0, none⟩) (k + n2) (k + n2)) (k + n2) (fillL (.string ⟨#[]⟩) ((xs ++ ys).map Value.string) (k + j) (k + n2)) ∧ Below w.heap.size w wr) (fun i _ => n2 - (intOf i).toNat)
      case atStart => exact ⟨0, Nat.zero_le _, rfl, unhide S1, unhide S2⟩
      case round =>
        obtain ⟨j, hj, rfl, hr1, hbel⟩ := hrel
        clear S1 S2
        by_cases hlt2 : j < n2
        · obtain ⟨s, hs⟩ : ∃ s, ys[j]? = some s := ⟨ys[j]'(by have := unhide l2; omega), by simp⟩
          obtain ⟨b, o, he, hcl⟩ := hc2 j s hs
          have hb := World.block_lt_of_cell? w _ hcl
          cases he
          have hx1 : wr.cell? ⟨b, o + j, none⟩ = some (.string s) := by rw [hbel.cell hb]; exact hcl
          have hx2 : wr.cell? ⟨w.heap.size, k + j, none⟩ = some (.string ⟨#[]⟩) := by rw [hr1.cellAt (k + j) (by omega)]; exact fillL_at _ _ _ _ (unhide hl) (by omega)
          have hf2 := hr1.frozenAt (k + j)
          have hst := hr1.stored (k + j) (.string s)
          rw [fillL_set _ _ _ _ (unhide hl) (by omega) _ (unhide hat2 j s hs)] at hst
          have R1 := hide hst.1
          have R3 := hide (hbel.setCell (p := ⟨w.heap.size, k + j, none⟩) (Nat.le_refl _) (.string s))
          clear hst hr1 hs hc1 hc2
          go_wp2
          go_roundw
          case rel => exact ⟨j + 1, by omega, by go_num, unhide R1, unhide R3⟩
          case measure => simp [intOf]; omega
        · go_wp2
          go_ret
          have : j = n2 := by omega
          subst this
          rw [fillL_full _ _ _ (unhide hl)] at hr1
          exact ⟨_, rfl, StrS.own hr1, rfl, hbel, fun g hg => by simp [Value.ownBlock] at hg; omega⟩
end Go.Proofs.Qxb6609067aFmt
