import Derived.Test.Qxb6614069aDoorTabs
import Derived.Test.Qxb6614069aDoorTop3
import Derived.Test.Qxb6614069aDoorTie
import Derived.Test.Qxb6614069aDoorCards
import Derived.SevenTiedAt
import Derived.Deep.DeepHandedRow
import Derived.Laws.Cover2
import Derived.Lay
import Derived.Stop.JoinedShaped
import Derived.Stop.LaidErr
import Derived.LaidSub
import Derived.SliceStrings
import Derived.ProofKit
namespace Go.Proofs.Qxb6614069aDoor
open Go.ChangeShapes Go.WideShapes Go.ChangeAt Go.RowKit Go.Lib

theorem Tryd.own : ownKnob Tryd.prog.godebug = none := by kernel_rfl
theorem Tryd.laidOut : laidOutB Tryd.prog = true := by kernel_rfl
theorem params3 : Tryd.f3.params = #[3, 2, 22, 22, 23] := by kernel_rfl

theorem trodAll_below {H : Type} {enc : TypeId × Value → H} {P : Program} (hl : laidOutB P = true) {W W' : World} (hb : Below W.heap.size W W') :
    ∀ {ts : List TypeId} {vs : List Value} {ds : List (DataW H)} {ps : List MemPlace}, (∀ t ∈ ts, P.readableRec t = true ∧ t < P.types.size) → DataW.TrodAll enc P W 0 (fun _ => true) true ts vs ds ps → (∀ x ∈ ps, x.block < W.heap.size) →
      DataW.TrodAll enc P W' 0 (fun b => decide (b < W.heap.size)) true ts vs ds ps := by
  intro ts
  induction ts with
  | nil =>
    intro vs ds ps _ h _
    obtain ⟨rfl, rfl, rfl⟩ := trodAll_nil h
    exact h
  | cons t ts ih =>
    intro vs ds ps ht h hlt
    obtain ⟨v, vs1, d, ds1, a, b, rfl, rfl, rfl, h1, h2⟩ := trodAll_cons h
    have k1 := Below.trod hl (ht t (by simp)).1 (ht t (by simp)).2 h1 hb (fun x hx => hlt x (by simp [hx]))
    have k2 := ih (fun t' h' => ht t' (by simp [h'])) h2 (fun x hx => hlt x (by simp [hx]))
    exact ⟨a, b, k1, k2, rfl⟩

theorem wf_i64 {n : Int} (h : (Lit.int .i64 n).wf = true) : -9223372036854775808 ≤ n ∧ n ≤ 9223372036854775807 := by
  have h1 : IntKind.i64.min = -9223372036854775808 := by decide
  have h2 : IntKind.i64.max = 9223372036854775807 := by decide
  simpa [Lit.wf, h1, h2] using h

theorem wf_u64 {n : Int} (h : (Lit.int .u64 n).wf = true) : ∃ u : Nat, n = (u : Int) ∧ u < 18446744073709551616 := by
  have h1 : IntKind.u64.min = 0 := by decide
  have h2 : IntKind.u64.max = 18446744073709551615 := by decide
  have h3 : 0 ≤ n ∧ n ≤ 18446744073709551615 := by simpa [Lit.wf, h1, h2] using h
  exact ⟨n.toNat, by omega, by omega⟩

theorem wf_f64 {b : Nat} (h : (Lit.float .f64 b).wf = true) : b < 18446744073709551616 := by
  simpa [Lit.wf] using h

set_option maxRecDepth 100000 in
theorem match_witness (os : Os) (W0 : World) (hW0 : IsLaid os W0) {H : Type} (enc : TypeId × Value → H) :
    (OpenSpec.ofChange Rows.fnContactWriterRowMatchesSpecSpec).preRow enc Tryd.prog Tryd.f3 Rows.fnContactWriterRowMatchesSpecRow.domain false Rows.fnContactWriterRowMatchesSpecRow.laid (W0.forCall (fun _ _ => 0) ⟨#[], #[.int .i64 0, .int .i64 0, .int .u64 0, .int .u64 0, .float .f64 0], []⟩).memory #[.int .i64 0, .int .i64 0, .int .u64 0, .int .u64 0, .float .f64 0] := by
  have hm := laid_met os W0 hW0 #[.int .i64 0, .int .i64 0, .int .u64 0, .int .u64 0, .float .f64 0]
  have hw : ∀ W1, IsLaid os W1 → (DataW.whole enc Tryd.prog (W1.forCall (fun _ _ => 0) ⟨#[], #[.int .i64 0, .int .i64 0, .int .u64 0, .int .u64 0, .float .f64 0], []⟩).memory Tryd.f3.params.toList (OpenSpec.ofChange Rows.fnContactWriterRowMatchesSpecSpec).vars false #[Value.int .i64 0, .int .i64 0, .int .u64 0, .int .u64 0, .float .f64 0].toList 8).map (fun x => (x.1, x.2.1)) =
      some ([.lit (.int .i64 0), .lit (.int .i64 0), .lit (.int .u64 0), .lit (.int .u64 0), .lit (.float .f64 0)], []) := by
    intro W1 h1
    unfold IsLaid at h1
    subst h1
    kernel_rfl
  obtain ⟨⟨x1, x2, x3⟩, hx, hx1⟩ := Option.map_eq_some_iff.1 (hw W0 hW0)
  simp only [Prod.mk.injEq] at hx1
  obtain ⟨rfl, rfl⟩ := hx1
  exact OpenSpec.preRow_of_cond 8 hx (by kernel_rfl) (fun k hk => by cases hk) (by kernel_rfl) hm

set_option maxRecDepth 1000000 in
theorem laid_shape (os : Os) (W0 : World) (hW0 : IsLaid os W0) (args : Array Value) : (W0.forCall (fun _ _ => 0) ⟨#[], args, []⟩).Shaped Tryd.prog := by
  unfold IsLaid at hW0
  subst hW0
  exact World.shaped_of_ZipB (by kernel_rfl) (by kernel_rfl)

set_option maxRecDepth 100000 in
theorem match_input (os : Os) (W0 : World) (hW0 : IsLaid os W0) : Input.okWideB Tryd.prog (W0.forCall (fun _ _ => 0) ⟨#[], #[.int .i64 0, .int .i64 0, .int .u64 0, .int .u64 0, .float .f64 0], []⟩) 3 ⟨#[], #[.int .i64 0, .int .i64 0, .int .u64 0, .int .u64 0, .float .f64 0], []⟩ = true := by
  unfold IsLaid at hW0
  subst hW0
  kernel_rfl

set_option maxRecDepth 100000 in
set_option maxHeartbeats 4000000 in
theorem match_lifted (os : Os) (started : os.Started) (H : Type) (enc : TypeId × Value → H) (F : Stop.Interp) :
    ReturnsInHanded {} Tryd.checked os 3 .any ((OpenSpec.ofChange Rows.fnContactWriterRowMatchesSpecSpec).preRow enc Tryd.prog Tryd.f3 Rows.fnContactWriterRowMatchesSpecRow.domain false Rows.fnContactWriterRowMatchesSpecRow.laid) (((OpenSpec.ofChange Rows.fnContactWriterRowMatchesSpecSpec).at F).post enc Tryd.prog Tryd.f3 false true false false) := by
  obtain ⟨W0, hW0⟩ : ∃ W0, IsLaid os W0 := ⟨_, rfl⟩
  refine returnsInHanded_of_row (C := Tryd.checked) (s := OpenSpec.ofChange Rows.fnContactWriterRowMatchesSpecSpec) Tryd.own started (by kernel_rfl) Tryd.func3
    ⟨W0, fun _ _ => 0, ⟨#[], #[.int .i64 0, .int .i64 0, .int .u64 0, .int .u64 0, .float .f64 0], []⟩, by unfold IsLaid at hW0; subst hW0; rfl, laid_shape os W0 hW0 _, (Input.okWide_of_okWideB (base := 0) (match_input os W0 hW0)).1, (Input.okWide_of_okWideB (match_input os W0 hW0)).2, match_witness os W0 hW0 enc, by simp [Assume.holds]⟩ ?_
  intro W base args ds gs before hval0 hW _ _ _ hL0 _ _
  have hL : laidMet Tryd.prog theLaid W := by
    have h := hL0
    rw [MakeChecks.laidMetH_plain _ _ _ (by kernel_rfl)] at h
    exact h
  have htab := tabs_of_laid hL
  clear hL0 hL
  have hval : ∀ (j : Nat) t v, Tryd.f3.params[j]? = some t → args[j]? = some v → Value.okWide Tryd.prog W .any base t v := hval0
  have hW' := hW
  obtain ⟨p, q, hA0, hV0, rfl, _, _⟩ := hW
  have hA : DataW.TrodAll enc Tryd.prog W 0 (fun _ => true) true Tryd.f3.params.toList args.toList ds p := hA0
  rw [params3] at hA hval
  obtain ⟨rfl, rfl⟩ := trodVars_none hV0
  obtain ⟨args⟩ := args
  obtain ⟨v0, vs0, d0, ds0, p0, q0, e0, rfl, rfl, h0, hA⟩ := trodAll_cons hA
  obtain ⟨v1, vs1, d1, ds1, p1, q1, e1, rfl, rfl, h1, hA⟩ := trodAll_cons hA
  obtain ⟨v2, vs2, d2, ds2, p2, q2, e2, rfl, rfl, h2, hA⟩ := trodAll_cons hA
  obtain ⟨v3, vs3, d3, ds3, p3, q3, e3, rfl, rfl, h3, hA⟩ := trodAll_cons hA
  obtain ⟨v4, vs4, d4, ds4, p4, q4, e4, rfl, rfl, h4, hA⟩ := trodAll_cons hA
  obtain ⟨rfl, rfl, rfl⟩ := trodAll_nil hA
  subst e4; subst e3; subst e2; subst e1
  replace e0 : args = [v0, v1, v2, v3, v4] := e0
  subst e0
  obtain ⟨x0, rfl, rfl, rfl, w0⟩ := open_int Tryd.underlying3 (hval 0 3 v0 rfl rfl) h0
  obtain ⟨x1, rfl, rfl, rfl, w1⟩ := open_int Tryd.underlying2 (hval 1 2 v1 rfl rfl) h1
  obtain ⟨x2, rfl, rfl, rfl, w2⟩ := open_int Tryd.underlying22 (hval 2 22 v2 rfl rfl) h2
  obtain ⟨x3, rfl, rfl, rfl, w3⟩ := open_int Tryd.underlying22 (hval 3 22 v3 rfl rfl) h3
  obtain ⟨x4, rfl, rfl, rfl, w4⟩ := open_float Tryd.underlying23 (hval 4 23 v4 rfl rfl) h4
  obtain ⟨y2, rfl, b2⟩ := wf_u64 w2
  obtain ⟨y3, rfl, b3⟩ := wf_u64 w3
  obtain ⟨g0, g1⟩ := wf_i64 w1
  refine (match_any W x0 x1 g0 g1 y2 y3 x4 b2 b3 (wf_f64 w4) htab).mono ?_
  rintro e W' ⟨rfl, bel⟩
  refine ⟨_, rfl, _, _, _, [], [] ++ ([] ++ ([] ++ ([] ++ ([] ++ [])))), [], hW', ?_, ?_, ?_, bel.frame _, fun h => by cases h⟩
  · exact trodAll_mk1 (shut_bool Tryd.underlying4 true)
  · exact trodAll_below Tryd.laidOut bel (fun t ht => by
      rw [params3] at ht
      simp only [List.mem_cons, List.not_mem_nil, or_false] at ht
      rcases ht with rfl | rfl | rfl | rfl | rfl
      all_goals exact ⟨by kernel_rfl, of_decide_eq_true (by kernel_rfl)⟩) hA0 (fun x hx => hW'.lt x hx)
  · rfl

end Go.Proofs.Qxb6614069aDoor
