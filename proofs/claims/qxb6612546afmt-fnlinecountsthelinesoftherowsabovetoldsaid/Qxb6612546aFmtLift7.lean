import Derived.Test.Qxb6612546aFmtLiftR
import Derived.Test.Qxb6612546aFmtTop7
import Derived.Test.Qxb6612546aFmtTie
import Derived.Test.Qxb6612546aFmtCards
import Derived.SevenTiedAt
namespace Go.Proofs.Qxb6612546aFmt
open Go.ChangeShapes Go.WideShapes Go.ChangeAt Go.RowKit Go.Lib
open Go.ChangeMaps (open_string shut_string)
open Go.Extern.Stop Go.Stop Go.Extern

theorem params7 : Tryf.f7.params = #[22, 25] := by kernel_rfl

set_option maxRecDepth 100000 in
theorem counts_witness (os : Os) (W0 : World) (hW0 : IsLaid os W0) {H : Type} (enc : TypeId × Value → H) :
    (OpenSpec.ofChange Rows.fnLineCountsTheLinesOfTheRowsAboveSpec).preRow enc Tryf.prog Tryf.f7 Rows.fnLineCountsTheLinesOfTheRowsAboveRow.domain false Rows.fnLineCountsTheLinesOfTheRowsAboveRow.laid (W0.forCall (fun _ _ => 0) ⟨#[], #[.slice none 0 0, .slice none 0 0], []⟩).memory #[.slice none 0 0, .slice none 0 0] := by
  have hm := laid_met os W0 hW0 #[.slice none 0 0, .slice none 0 0]
  have hw : ∀ W1, IsLaid os W1 → (DataW.whole enc Tryf.prog (W1.forCall (fun _ _ => 0) ⟨#[], #[.slice none 0 0, .slice none 0 0], []⟩).memory Tryf.f7.params.toList (OpenSpec.ofChange Rows.fnLineCountsTheLinesOfTheRowsAboveSpec).vars false #[Value.slice none 0 0, .slice none 0 0].toList 8).map (fun x => (x.1, x.2.1)) =
      some ([.nil, .nil], []) := by
    intro W1 h1
    unfold IsLaid at h1
    subst h1
    kernel_rfl
  obtain ⟨⟨x1, x2, x3⟩, hx, hx1⟩ := Option.map_eq_some_iff.1 (hw W0 hW0)
  simp only [Prod.mk.injEq] at hx1
  obtain ⟨rfl, rfl⟩ := hx1
  exact OpenSpec.preRow_of_cond 8 hx (by kernel_rfl) (fun k hk => by cases hk) (by kernel_rfl) hm

set_option maxRecDepth 100000 in
set_option maxHeartbeats 4000000 in
theorem counts_lifted (os : Os) (started : os.Started) (H : Type) (enc : TypeId × Value → H) :
    ReturnsInTold none {} Tryf.checked os 7 .any Input.okWide ((OpenSpec.ofChange Rows.fnLineCountsTheLinesOfTheRowsAboveSpec).preRow enc Tryf.prog Tryf.f7 Rows.fnLineCountsTheLinesOfTheRowsAboveRow.domain false Rows.fnLineCountsTheLinesOfTheRowsAboveRow.laid) (fun F => ((OpenSpec.ofChange Rows.fnLineCountsTheLinesOfTheRowsAboveSpec).at F).post enc Tryf.prog Tryf.f7 false true false false) (aloneAtReturn Tryf.prog) nothingAlways := by
  have K : ReturnsInStopped none {} Tryf.checked os 7 .any Input.okWide ((OpenSpec.ofChange Rows.fnLineCountsTheLinesOfTheRowsAboveSpec).preRow enc Tryf.prog Tryf.f7 Rows.fnLineCountsTheLinesOfTheRowsAboveRow.domain false Rows.fnLineCountsTheLinesOfTheRowsAboveRow.laid) (fun F => ((OpenSpec.ofChange Rows.fnLineCountsTheLinesOfTheRowsAboveSpec).at F).post enc Tryf.prog Tryf.f7 false true false false) (aloneAtReturn Tryf.prog) nothingAlways := by
    obtain ⟨W0, hW0⟩ : ∃ W0, IsLaid os W0 := ⟨_, rfl⟩
    refine returnsInStopped_of_row_shaped (C := Tryf.checked) (s := OpenSpec.ofChange Rows.fnLineCountsTheLinesOfTheRowsAboveSpec) (by kernel_rfl) Tryf.own started (by kernel_rfl) Tryf.func7
      (OpenSpec.witness_stopped_atRef (enc := enc) (C := Tryf.checked) false W0 _ (by unfold IsLaid at hW0; subst hW0; rfl) (by unfold IsLaid at hW0; subst hW0; kernel_rfl) (by unfold IsLaid at hW0; subst hW0; kernel_rfl) (by unfold IsLaid at hW0; subst hW0; kernel_rfl) (counts_witness os W0 hW0 enc)) ?_
    intro F W base args ds gs before _ hF hval0 hW _ _ _ hL hsh _
    obtain ⟨ea, fa, hE⟩ := env_of_laid hL
    have hval : ∀ (j : Nat) t v, Tryf.f7.params[j]? = some t → args[j]? = some v → Value.okWide Tryf.prog W .any base t v := hval0
    have hW' := hW
    obtain ⟨p, q, hA0, hV0, rfl, _, _⟩ := hW
    have hA : DataW.TrodAll enc Tryf.prog W 0 (fun _ => true) true Tryf.f7.params.toList args.toList ds p := hA0
    rw [params7] at hA hval
    obtain ⟨rfl, rfl⟩ := trodVars_none hV0
    have hA1 := hA
    obtain ⟨args⟩ := args
    obtain ⟨v0, vs0, d0, ds0, p0, q0, e0, rfl, rfl, h0, hA⟩ := trodAll_cons hA
    obtain ⟨v1, vs1, d1, ds1, p1, q1, e1, rfl, rfl, h1, hA⟩ := trodAll_cons hA
    obtain ⟨rfl, rfl, rfl⟩ := trodAll_nil hA
    subst e1
    replace e0 : args = [v0, v1] := e0
    subst e0
    obtain ⟨a3, c3, x3, rfl, s3⟩ := open_strS (hval 0 22 v0 rfl rfl) h0
    obtain ⟨a4, c4, x4, rfl, s4⟩ := open_rows (hval 1 25 v1 rfl rfl) h1
    refine (counts_any F x3 x4 a3 a4 _ _ c3 c4 ea fa W hF hE s3 s4).mono ?_
    rintro e W' ⟨rfl, bel⟩
    refine ⟨_, rfl, _, _, _, [], p0 ++ (p1 ++ []), [], hW', ?_, ?_, ?_, bel.frame _, fun h => by cases h⟩
    · exact trodAll_mk1 (shut_bool Tryf.underlying4 true)
    · exact trodAll_below Tryf.laidOut bel (fun t ht => by
        rw [params7] at ht
        simp only [List.mem_cons, List.not_mem_nil, or_false] at ht
        rcases ht with rfl | rfl
        all_goals exact ⟨by kernel_rfl, of_decide_eq_true (by kernel_rfl)⟩) hA0 (fun x hx => hW'.lt x (by simpa using hx))
    · rfl
  exact fun F => K F.told
end Go.Proofs.Qxb6612546aFmt
