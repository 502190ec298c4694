import Derived.Test.Qxb6614069aDoorTopP
namespace Go.Proofs.Qxb6614069aDoor
open Go.RowKit Go.Lib

/-- A row that came in. -/
def InRow (w : World) (a : Option Addr) (l : List Value) : Prop := ∀ j u, l[j]? = some u → ∃ b o, a = some ⟨b, o, none⟩ ∧ w.cell? ⟨b, o + j, none⟩ = some u

theorem InRow.below {w w' : World} {a : Option Addr} {l : List Value} (h : InRow w a l) (hb : Below w.heap.size w w') : InRow w' a l := fun j u hj => by
  obtain ⟨b, o, e, hc⟩ := h j u hj
  refine ⟨b, o, e, ?_⟩
  rw [World.cell?_of_block (a := ⟨b, o + j, none⟩) (hb.block b (World.block_lt_of_cell? w _ hc))]
  exact hc

set_option maxRecDepth 100000 in
set_option maxHeartbeats 4000000 in
theorem zzB_any (a0 a1 a2 a3 a4 : Option Addr) (n0 n1 n2 n3 n4 c0 c1 c2 c3 c4 : Nat) (w : World) :
    Calls Tryd.prog 11 #[.slice a0 n0 c0, .slice a1 n1 c1, .slice a2 n2 c2, .slice a3 n3 c3, .slice a4 n4 c4] w fun e w' => ∃ bo, e = .returned (.bool bo) ∧ w' = w := by
  go_enter Tryd.func11, Tryd.ntmps11
  go_wp2
  all_goals (go_ret; exact ⟨_, rfl, rfl⟩)

theorem conv_own {w : World} {v : Value} {L : List UInt8} (h : w.ownsRow 0 5 1 v L.length (L.map byteV)) (hL : 1 ≤ L.length) : (convert 44 9 v).run Tryd.prog w = .ok (.string (bstr L)) w := by
  rcases h.2 with ⟨-, e⟩ | ⟨g, cap, cur, rfl, _⟩
  · omega
  · exact run_convert_bytes_back (P := Tryd.prog) w 44 9 5 ⟨g, 0, none⟩ cap L Tryd.underlying44 Tryd.underlying5 Tryd.underlying9 (fun j hj => h.cells (g := g) rfl j _ (by rw [List.getElem?_map, List.getElem?_eq_getElem hj]; rfl))

set_option maxRecDepth 100000 in
set_option maxHeartbeats 4000000 in
/-- A slice too long: true at once. -/
theorem concat_big (w : World) (a0 a1 a2 a3 a4 : Option Addr) (n0 n1 n2 n3 n4 c0 c1 c2 c3 c4 : Nat)
    (hbig : 8192 < n0 ∨ (n0 ≤ 8192 ∧ (8192 < n1 ∨ (n1 ≤ 8192 ∧ (8192 < n2 ∨ (n2 ≤ 8192 ∧ (8192 < n3 ∨ (n3 ≤ 8192 ∧ 8192 < n4)))))))) :
    Calls Tryd.prog 4 #[.slice a0 n0 c0, .slice a1 n1 c1, .slice a2 n2 c2, .slice a3 n3 c3, .slice a4 n4 c4] w fun e w' => e = .returned (.bool true) ∧ Below w.heap.size w w' := by
  have HZ := hide (zzB_any a0 a1 a2 a3 a4 n0 n1 n2 n3 n4 c0 c1 c2 c3 c4 w)
  go_enter Tryd.func4, Tryd.ntmps4
  go_wp2_with fail
  refine (unhide HZ).mono ?_
  rintro e w' ⟨bo, rfl, hw⟩
  replace hw := hw.symm
  subst hw
  cases bo
  · go_wp2
    go_ret
    exact ⟨rfl, Below.refl _ _⟩
  · rcases hbig with h0 | ⟨h0, h1 | ⟨h1, h2 | ⟨h2, h3 | ⟨h3, h4⟩⟩⟩⟩
    all_goals
      go_wp2
      go_ret
      exact ⟨rfl, Below.refl _ _⟩

end Go.Proofs.Qxb6614069aDoor
