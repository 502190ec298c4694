import Derived.Test.Qxb6612546aFmtRecP
namespace Go.Proofs.Qxb6612546aFmt
open Go.RowKit

set_option maxRecDepth 100000 in
set_option maxHeartbeats 1000000 in
theorem fieldPos_any (N k st : Nat) (fpr nl off : Int) (raw rec fi fp last : Value) (cells : List Value) (w : World) (hC : Csv w N fpr nl off raw rec fi fp last) (hfp : w.ownsRow (N + 4) 82 2 fp k cells) (hk : 0 < k) (hkb : k ≤ 1048576000) (h0 : cells[0]? = some (intV st)) :
    Calls Tryf.prog 43 #[.pointer (some ⟨N + 3, 0, none⟩), .int .i64 0] w fun e w' => ∃ u, e = .returned (.tuple #[.int .i64 st, u]) ∧ Below w.heap.size w w' := by
  obtain ⟨_, _, _, _, _, _, _, _, _, _, _, _, k13, _⟩ := hC.cells
  have hl := hfp.1
  rcases hfp.2 with ⟨_, h⟩ | ⟨g, cap, cur, rfl, hb, hg, hc1, hc2, hc3, hc4⟩
  · omega
  · have e0 : w.cell? ⟨g, 0, none⟩ = some (.int .i64 st) := by
      rw [cell_of_row w g 0 _ _ _ hg]
      have : cur.toList[0]? = cells[0]? := by rw [← hc4, List.getElem?_take_of_lt (by omega)]
      rw [h0] at this
      simpa [intV] using this
    obtain ⟨u, e1⟩ : ∃ u, w.cell? ⟨g, 1, none⟩ = some u := by
      rw [cell_of_row w g 1 _ _ _ hg]
      exact ⟨cur[1]'(by omega), by simp⟩
    have hkI : ¬ ((k : Int) ≤ 0) := by omega
    have hkI2 : (0 : Int) < k := by omega
    clear hC hfp hl h0 hb hg hc1 hc2 hc3 hc4
    go_enter Tryf.func43, Tryf.ntmps43
    go_wp2
    go_quiet (fail)
    go_wp2
    go_ret2
    exact ⟨u, rfl, bdrew (Below.refl _ w)⟩
end Go.Proofs.Qxb6612546aFmt
