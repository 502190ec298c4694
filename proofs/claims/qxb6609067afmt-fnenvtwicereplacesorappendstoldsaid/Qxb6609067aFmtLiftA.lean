import Derived.Test.Qxb6609067aFmtLift
import Derived.Test.Qxb6609067aFmtTopA
import Derived.Test.Qxb6609067aFmtTie
import Derived.Test.Qxb6609067aFmtCards
import Derived.SevenTiedAt
namespace Go.Proofs.Qxb6609067aFmt
open Go.ChangeShapes Go.WideShapes Go.ChangeAt Go.RowKit Go.Lib
open Go.ChangeMaps (open_string shut_string)
open Go.Extern.Stop Go.Stop Go.Extern

theorem params4 : Tryf.f4.params = #[3, 9, 9, 22, 22, 22, 22, 22] := by kernel_rfl
theorem results4 : Tryf.f4.resultTypes = #[4] := by kernel_rfl

set_option maxRecDepth 100000 in
theorem twice_witness (os : Os) (W0 : World) (hW0 : IsLaid os W0) {H : Type} (enc : TypeId × Value → H) :
    (OpenSpec.ofChange Rows.fnEnvTwiceReplacesOrAppendsSpec).preRow enc Tryf.prog Tryf.f4 Rows.fnEnvTwiceReplacesOrAppendsRow.domain false Rows.fnEnvTwiceReplacesOrAppendsRow.laid (W0.forCall (fun _ _ => 0) ⟨#[], #[.int .i64 0, .string ⟨#[]⟩, .string ⟨#[]⟩, .slice none 0 0, .slice none 0 0, .slice none 0 0, .slice none 0 0, .slice none 0 0], []⟩).memory #[.int .i64 0, .string ⟨#[]⟩, .string ⟨#[]⟩, .slice none 0 0, .slice none 0 0, .slice none 0 0, .slice none 0 0, .slice none 0 0] := by
  have hm := laid_met os W0 hW0 #[.int .i64 0, .string ⟨#[]⟩, .string ⟨#[]⟩, .slice none 0 0, .slice none 0 0, .slice none 0 0, .slice none 0 0, .slice none 0 0]
  have hw : ∀ W1, IsLaid os W1 → (DataW.whole enc Tryf.prog (W1.forCall (fun _ _ => 0) ⟨#[], #[.int .i64 0, .string ⟨#[]⟩, .string ⟨#[]⟩, .slice none 0 0, .slice none 0 0, .slice none 0 0, .slice none 0 0, .slice none 0 0], []⟩).memory Tryf.f4.params.toList (OpenSpec.ofChange Rows.fnEnvTwiceReplacesOrAppendsSpec).vars false #[Value.int .i64 0, .string ⟨#[]⟩, .string ⟨#[]⟩, .slice none 0 0, .slice none 0 0, .slice none 0 0, .slice none 0 0, .slice none 0 0].toList 8).map (fun x => (x.1, x.2.1)) =
      some ([.lit (.int .i64 0), .lit (.string []), .lit (.string []), .nil, .nil, .nil, .nil, .nil], []) := by
    intro W1 h1
    unfold IsLaid at h1
    subst h1
    kernel_rfl
  obtain ⟨⟨x1, x2, x3⟩, hx, hx1⟩ := Option.map_eq_some_iff.1 (hw W0 hW0)
  simp only [Prod.mk.injEq] at hx1
  obtain ⟨rfl, rfl⟩ := hx1
  exact OpenSpec.preRow_of_cond 8 hx (by kernel_rfl) (fun k hk => by cases hk) (by kernel_rfl) hm

set_option maxRecDepth 100000 in
set_option maxHeartbeats 4000000 in
theorem twice_lifted (os : Os) (started : os.Started) (H : Type) (enc : TypeId × Value → H) :
    ReturnsInTold none {} Tryf.checked os 4 .any Input.okWide ((OpenSpec.ofChange Rows.fnEnvTwiceReplacesOrAppendsSpec).preRow enc Tryf.prog Tryf.f4 Rows.fnEnvTwiceReplacesOrAppendsRow.domain false Rows.fnEnvTwiceReplacesOrAppendsRow.laid) (fun F => ((OpenSpec.ofChange Rows.fnEnvTwiceReplacesOrAppendsSpec).at F).post enc Tryf.prog Tryf.f4 false true false false) (aloneAtReturn Tryf.prog) nothingAlways := by
  have K : ReturnsInStopped none {} Tryf.checked os 4 .any Input.okWide ((OpenSpec.ofChange Rows.fnEnvTwiceReplacesOrAppendsSpec).preRow enc Tryf.prog Tryf.f4 Rows.fnEnvTwiceReplacesOrAppendsRow.domain false Rows.fnEnvTwiceReplacesOrAppendsRow.laid) (fun F => ((OpenSpec.ofChange Rows.fnEnvTwiceReplacesOrAppendsSpec).at F).post enc Tryf.prog Tryf.f4 false true false false) (aloneAtReturn Tryf.prog) nothingAlways := by
    obtain ⟨W0, hW0⟩ : ∃ W0, IsLaid os W0 := ⟨_, rfl⟩
    refine returnsInStopped_of_row_shaped (C := Tryf.checked) (s := OpenSpec.ofChange Rows.fnEnvTwiceReplacesOrAppendsSpec) (by kernel_rfl) Tryf.own started (by kernel_rfl) Tryf.func4
      (OpenSpec.witness_stopped_atRef (enc := enc) (C := Tryf.checked) false W0 _ (by unfold IsLaid at hW0; subst hW0; rfl) (by unfold IsLaid at hW0; subst hW0; kernel_rfl) (by unfold IsLaid at hW0; subst hW0; kernel_rfl) (by unfold IsLaid at hW0; subst hW0; kernel_rfl) (twice_witness os W0 hW0 enc)) ?_
    intro F W base args ds gs before _ hF hval0 hW _ _ _ hL hsh _
    have hE : Env1 W := env_of_laid hL hsh
    have hval : ∀ (j : Nat) t v, Tryf.f4.params[j]? = some t → args[j]? = some v → Value.okWide Tryf.prog W .any base t v := hval0
    have hW' := hW
    obtain ⟨p, q, hA0, hV0, rfl, _, _⟩ := hW
    have hA : DataW.TrodAll enc Tryf.prog W 0 (fun _ => true) true Tryf.f4.params.toList args.toList ds p := hA0
    rw [params4] at hA hval
    obtain ⟨rfl, rfl⟩ := trodVars_none hV0
    have hA1 := hA
    obtain ⟨args⟩ := args
    obtain ⟨v0, vs0, d0, ds0, p0, q0, e0, rfl, rfl, h0, hA⟩ := trodAll_cons hA
    obtain ⟨v1, vs1, d1, ds1, p1, q1, e1, rfl, rfl, h1, hA⟩ := trodAll_cons hA
    obtain ⟨v2, vs2, d2, ds2, p2, q2, e2, rfl, rfl, h2, hA⟩ := trodAll_cons hA
    obtain ⟨v3, vs3, d3, ds3, p3, q3, e3, rfl, rfl, h3, hA⟩ := trodAll_cons hA
    obtain ⟨v4, vs4, d4, ds4, p4, q4, e4, rfl, rfl, h4, hA⟩ := trodAll_cons hA
    obtain ⟨v5, vs5, d5, ds5, p5, q5, e5, rfl, rfl, h5, hA⟩ := trodAll_cons hA
    obtain ⟨v6, vs6, d6, ds6, p6, q6, e6, rfl, rfl, h6, hA⟩ := trodAll_cons hA
    obtain ⟨v7, vs7, d7, ds7, p7, q7, e7, rfl, rfl, h7, hA⟩ := trodAll_cons hA
    obtain ⟨rfl, rfl, rfl⟩ := trodAll_nil hA
    subst e7; subst e6; subst e5; subst e4; subst e3; subst e2; subst e1
    replace e0 : args = [v0, v1, v2, v3, v4, v5, v6, v7] := e0
    subst e0
    obtain ⟨z, rfl, rfl, rfl, _⟩ := open_int Tryf.underlying3 (hval 0 3 v0 rfl rfl) h0
    obtain ⟨kw, rfl, rfl, rfl, _⟩ := open_string Tryf.underlying9 (hval 1 9 v1 rfl rfl) h1
    obtain ⟨ar, rfl, rfl, rfl, _⟩ := open_string Tryf.underlying9 (hval 2 9 v2 rfl rfl) h2
    obtain ⟨a3, c3, x3, rfl, s3⟩ := open_strS (hval 3 22 v3 rfl rfl) h3
    obtain ⟨a4, c4, x4, rfl, s4⟩ := open_strS (hval 4 22 v4 rfl rfl) h4
    obtain ⟨a5, c5, x5, rfl, s5⟩ := open_strS (hval 5 22 v5 rfl rfl) h5
    obtain ⟨a6, c6, x6, rfl, s6⟩ := open_strS (hval 6 22 v6 rfl rfl) h6
    obtain ⟨a7, c7, x7, rfl, s7⟩ := open_strS (hval 7 22 v7 rfl rfl) h7
    refine (twice_any F z kw ar a3 a4 a5 a6 a7 c3 c4 c5 c6 c7 x3 x4 x5 x6 x7 W s3 s4 s5 s6 s7 hF hE).mono ?_
    rintro e W' ⟨rfl, bel⟩
    refine ⟨_, rfl, _, _, _, [], [] ++ ([] ++ ([] ++ (p3 ++ (p4 ++ (p5 ++ (p6 ++ (p7 ++ []))))))), [], hW', ?_, ?_, ?_, bel.frame _, fun h => by cases h⟩
    · exact trodAll_mk1 (shut_bool Tryf.underlying4 true)
    · exact trodAll_below Tryf.laidOut bel (fun t ht => by
        rw [params4] at ht
        simp only [List.mem_cons, List.not_mem_nil, or_false] at ht
        rcases ht with rfl | rfl | rfl | rfl | rfl | rfl | rfl | rfl
        all_goals exact ⟨by kernel_rfl, of_decide_eq_true (by kernel_rfl)⟩) hA0 (fun x hx => hW'.lt x (by simpa using hx))
    · rfl
  exact fun F => K F.told
end Go.Proofs.Qxb6609067aFmt
