import Derived.Test.Qxb6612546aFmtLift
import Derived.Test.Qxb6612546aFmtTop3
import Derived.Test.Qxb6612546aFmtParse
import Derived.Test.Qxb6612546aFmtTie
import Derived.Test.Qxb6612546aFmtCards
import Derived.SevenTiedAt
namespace Go.Proofs.Qxb6612546aFmt
open Go.ChangeShapes Go.WideShapes Go.ChangeAt Go.RowKit Go.Lib
open Go.ChangeMaps (open_string shut_string)
open Go.Extern.Stop Go.Stop Go.Extern

theorem params3 : Tryf.f3.params = #[9, 22, 22] := by kernel_rfl

set_option maxRecDepth 100000 in
theorem nextReads_witness (os : Os) (W0 : World) (hW0 : IsLaid os W0) {H : Type} (enc : TypeId × Value → H) :
    (OpenSpec.ofChange Rows.fnNextReadsTheRecordsOfTheFileSpec).preRow enc Tryf.prog Tryf.f3 Rows.fnNextReadsTheRecordsOfTheFileRow.domain false Rows.fnNextReadsTheRecordsOfTheFileRow.laid (W0.forCall (fun _ _ => 0) ⟨#[], #[.string ⟨#[]⟩, .slice none 0 0, .slice none 0 0], []⟩).memory #[.string ⟨#[]⟩, .slice none 0 0, .slice none 0 0] := by
  have hm := laid_met os W0 hW0 #[.string ⟨#[]⟩, .slice none 0 0, .slice none 0 0]
  have hw : ∀ W1, IsLaid os W1 → (DataW.whole enc Tryf.prog (W1.forCall (fun _ _ => 0) ⟨#[], #[.string ⟨#[]⟩, .slice none 0 0, .slice none 0 0], []⟩).memory Tryf.f3.params.toList (OpenSpec.ofChange Rows.fnNextReadsTheRecordsOfTheFileSpec).vars false #[Value.string ⟨#[]⟩, .slice none 0 0, .slice none 0 0].toList 8).map (fun x => (x.1, x.2.1)) =
      some ([.lit (.string []), .nil, .nil], []) := by
    intro W1 h1
    unfold IsLaid at h1
    subst h1
    kernel_rfl
  obtain ⟨⟨x1, x2, x3⟩, hx, hx1⟩ := Option.map_eq_some_iff.1 (hw W0 hW0)
  simp only [Prod.mk.injEq] at hx1
  obtain ⟨rfl, rfl⟩ := hx1
  exact OpenSpec.preRow_of_cond 8 hx (by kernel_rfl) (fun k hk => by cases hk) (by kernel_rfl) hm

set_option maxRecDepth 100000 in
set_option maxHeartbeats 4000000 in
theorem nextReads_lifted (os : Os) (started : os.Started) (H : Type) (enc : TypeId × Value → H) :
    ReturnsInTold none {} Tryf.checked os 3 .any Input.okWide ((OpenSpec.ofChange Rows.fnNextReadsTheRecordsOfTheFileSpec).preRow enc Tryf.prog Tryf.f3 Rows.fnNextReadsTheRecordsOfTheFileRow.domain false Rows.fnNextReadsTheRecordsOfTheFileRow.laid) (fun F => ((OpenSpec.ofChange Rows.fnNextReadsTheRecordsOfTheFileSpec).at F).post enc Tryf.prog Tryf.f3 false true false false) (aloneAtReturn Tryf.prog) nothingAlways := by
  have K : ReturnsInStopped none {} Tryf.checked os 3 .any Input.okWide ((OpenSpec.ofChange Rows.fnNextReadsTheRecordsOfTheFileSpec).preRow enc Tryf.prog Tryf.f3 Rows.fnNextReadsTheRecordsOfTheFileRow.domain false Rows.fnNextReadsTheRecordsOfTheFileRow.laid) (fun F => ((OpenSpec.ofChange Rows.fnNextReadsTheRecordsOfTheFileSpec).at F).post enc Tryf.prog Tryf.f3 false true false false) (aloneAtReturn Tryf.prog) nothingAlways := by
    obtain ⟨W0, hW0⟩ : ∃ W0, IsLaid os W0 := ⟨_, rfl⟩
    refine returnsInStopped_of_row_shaped (C := Tryf.checked) (s := OpenSpec.ofChange Rows.fnNextReadsTheRecordsOfTheFileSpec) (by kernel_rfl) Tryf.own started (by kernel_rfl) Tryf.func3
      (OpenSpec.witness_stopped_atRef (enc := enc) (C := Tryf.checked) false W0 _ (by unfold IsLaid at hW0; subst hW0; rfl) (by unfold IsLaid at hW0; subst hW0; kernel_rfl) (by unfold IsLaid at hW0; subst hW0; kernel_rfl) (by unfold IsLaid at hW0; subst hW0; kernel_rfl) (nextReads_witness os W0 hW0 enc)) ?_
    intro F W base args ds gs before _ hF hval0 hW _ _ _ hL hsh _
    obtain ⟨ea, fa, hE⟩ := env_of_laid hL
    have hval : ∀ (j : Nat) t v, Tryf.f3.params[j]? = some t → args[j]? = some v → Value.okWide Tryf.prog W .any base t v := hval0
    have hW' := hW
    obtain ⟨p, q, hA0, hV0, rfl, _, _⟩ := hW
    have hA : DataW.TrodAll enc Tryf.prog W 0 (fun _ => true) true Tryf.f3.params.toList args.toList ds p := hA0
    rw [params3] at hA hval
    obtain ⟨rfl, rfl⟩ := trodVars_none hV0
    have hA1 := hA
    obtain ⟨args⟩ := args
    obtain ⟨v0, vs0, d0, ds0, p0, q0, e0, rfl, rfl, h0, hA⟩ := trodAll_cons hA
    obtain ⟨v1, vs1, d1, ds1, p1, q1, e1, rfl, rfl, h1, hA⟩ := trodAll_cons hA
    obtain ⟨v2, vs2, d2, ds2, p2, q2, e2, rfl, rfl, h2, hA⟩ := trodAll_cons hA
    obtain ⟨rfl, rfl, rfl⟩ := trodAll_nil hA
    subst e2; subst e1
    replace e0 : args = [v0, v1, v2] := e0
    subst e0
    obtain ⟨tx, rfl, rfl, rfl, _⟩ := open_string Tryf.underlying9 (hval 0 9 v0 rfl rfl) h0
    obtain ⟨a3, c3, x3, rfl, s3⟩ := open_strS (hval 1 22 v1 rfl rfl) h1
    obtain ⟨a4, c4, x4, rfl, s4⟩ := open_strS (hval 2 22 v2 rfl rfl) h2
    refine (nextReads_any parse_any F tx x3 x4 a3 a4 _ _ c3 c4 ea fa W hF hE s3 s4).mono ?_
    rintro e W' ⟨rfl, bel⟩
    refine ⟨_, rfl, _, _, _, [], [] ++ (p1 ++ (p2 ++ [])), [], hW', ?_, ?_, ?_, bel.frame _, fun h => by cases h⟩
    · exact trodAll_mk1 (shut_bool Tryf.underlying4 true)
    · exact trodAll_below Tryf.laidOut bel (fun t ht => by
        rw [params3] at ht
        simp only [List.mem_cons, List.not_mem_nil, or_false] at ht
        rcases ht with rfl | rfl | rfl
        all_goals exact ⟨by kernel_rfl, of_decide_eq_true (by kernel_rfl)⟩) hA0 (fun x hx => hW'.lt x (by simpa using hx))
    · rfl
  exact fun F => K F.told
end Go.Proofs.Qxb6612546aFmt
