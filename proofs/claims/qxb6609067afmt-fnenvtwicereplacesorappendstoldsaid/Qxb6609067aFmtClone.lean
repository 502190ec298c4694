import Derived.Test.Qxb6609067aFmtBase
namespace Go.Proofs.Qxb6609067aFmt
open Go.RowKit

theorem Tryf.info9 : (Tryf.prog.info? 9).map (fun i => (i.zero, i.size, i.bytes)) = some (some (.string ⟨#[]⟩), 1, 16) := by kernel_rfl

theorem StrS.some_cases {w : World} {a : Option Addr} {n c : Nat} {xs : List ByteArray} (h : StrS w (.slice a n c) xs) :
    xs.length = n ∧ n ≤ c ∧ (a = none → xs = [] ∧ c = 0) ∧ ∀ i s, xs[i]? = some s → ∃ b o, a = some ⟨b, o, none⟩ ∧ w.cell? ⟨b, o + i, none⟩ = some (.string s) := by
  obtain ⟨a', c', he, hc, hn, hcell⟩ := h
  simp at he
  obtain ⟨rfl, rfl, rfl⟩ := he
  exact ⟨rfl, hc, hn, hcell⟩

set_option maxHeartbeats 400000 in
theorem clone_nil (w : World) : Calls Tryf.prog 9 #[.slice none 0 0] w fun e w' => e = .returned (.slice none 0 0) ∧ w' = w := by
  have hnl := fun w => Lib.run_eql_slice_nil (P := Tryf.prog) w 22 9 none 0 0 0 0 Tryf.underlying22
  go_enter Tryf.func9, Tryf.ntmps9
  go_wp2
  go_ret
  exact ⟨rfl, rfl⟩

set_option maxHeartbeats 400000 in
theorem clone_some (ad : Addr) (n c : Nat) (xs : List ByteArray) (w : World) (h : StrS w (.slice (some ad) n c) xs) (hn : n ≤ 1048576) :
    Calls Tryf.prog 9 #[.slice (some ad) n c] w fun e w' => ∃ g, e = .returned (.slice (some ⟨g, 0, none⟩) n n) ∧ w.heap.size ≤ g ∧ g < w'.heap.size ∧ StrS w' (.slice (some ⟨g, 0, none⟩) n n) xs ∧ Below w.heap.size w w' := by
  obtain ⟨hl, hc, _, hcell⟩ := h.some_cases
  obtain ⟨i0, hi, hz0, hz1, hz2⟩ := info_parts Tryf.info9
  have hnl := fun w => Lib.run_eql_slice_nil (P := Tryf.prog) w 22 9 (some ad) n c 0 0 Tryf.underlying22
  have hb2 : i0.bytes * n ≤ 281474976710656 := by rw [hz2]; omega
  have hmx : n ≤ maxLen := by unfold maxLen; omega
  go_enter Tryf.func9, Tryf.ntmps9
  go_wp2_with (at_make; refine wpList_make_full _ rfl _ _ 22 rfl w.heap.size 9 i0 (.string ⟨#[]⟩) 1 Tryf.underlying22 hi hz0 hz1 _ _ _ _ n rfl rfl rfl rfl hb2 hmx (Nat.le_refl _) ?_)
  intro w1 hown hgrow
  have hown0 : w1.ownsRow w.heap.size 9 1 (.slice (some ⟨w.heap.size, 0, none⟩) n n) n (fillL (.string ⟨#[]⟩) (xs.map Value.string) 0 n) := by
    rw [fillL_zero]; simpa [Value.cells, toList_madeCells_one] using hown
  have hb1 : Below w.heap.size w w1 := (Below.refl _ w).grown hgrow (Nat.le_refl _) (by simp)
  clear hown hgrow
  go_wp2
  go_loopw [4] (fun i wr => ∃ k : Nat, k ≤ n ∧ i = .int .i64 k ∧ wr.ownsRow w.heap.size 9 1 (.slice (some ⟨w.heap.size, 0, none⟩) n n) n (fillL (.string ⟨#[]⟩) (xs.map Value.string) k n) ∧ Below w.heap.size w wr) (fun i _ => n - (intOf i).toNat)
  case atStart => exact ⟨0, Nat.zero_le _, rfl, hown0, hb1⟩
  case round =>
    obtain ⟨k, hk, rfl, hown, hbel⟩ := hrel
    clear hown0 hb1
    by_cases hlt : k < n
    · obtain ⟨s, hs⟩ : ∃ s, xs[k]? = some s := ⟨xs[k], by simp [hl, hlt]⟩
      obtain ⟨b, o, he, hcl⟩ := hcell k s hs
      have hb := World.block_lt_of_cell? w _ hcl
      cases he
      have hc1 : wr.cell? ⟨b, o + k, none⟩ = some (.string s) := by rw [hbel.cell hb]; exact hcl
      have hc2 : wr.cell? ⟨w.heap.size, k, none⟩ = some (.string ⟨#[]⟩) := by rw [hown.cellAt k (by omega)]; exact fillL_at _ _ _ _ (by simp [hl]) hlt
      have hf2 := hown.frozenAt k
      have hst := hown.stored k (.string s)
      rw [fillL_set _ _ _ _ (by simp [hl]) hlt _ (by simp [hs])] at hst
      have hst1 := hide hst.1
      have hst2 := hide (hbel.setCell (p := ⟨w.heap.size, k, none⟩) (Nat.le_refl _) (.string s))
      clear hst hown hcell
      go_wp2
      go_roundw
      case rel => exact ⟨k + 1, by omega, by go_num, unhide hst1, unhide hst2⟩
      case measure => simp [intOf]; omega
    · go_wp2
      go_ret
      have : k = n := by omega
      subst this
      refine ⟨w.heap.size, rfl, Nat.le_refl _, (hown.lt _ rfl).2, ?_, hbel⟩
      rw [fillL_full _ _ _ (by simp [hl])] at hown
      have := StrS.mk (w := wr) (b := w.heap.size) (o := 0) (c := k) (xs := xs) (by omega) (fun i s hs => by
        have hi : i < k := by have := (List.getElem?_eq_some_iff.1 hs).1; omega
        rw [Nat.zero_add, hown.cellAt i (by omega)]; simp [hs])
      rwa [hl] at this
end Go.Proofs.Qxb6609067aFmt
