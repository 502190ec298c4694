import Derived.Test.Qxb6614069aDoorLift3
import Derived.Test.Qxb6614069aDoorTop4c
namespace Go.Proofs.Qxb6614069aDoor
open Go.ChangeShapes Go.WideShapes Go.ChangeAt Go.RowKit Go.Lib

/-- Whatever the slices: the law answers true. -/
theorem concat_any (w : World) (i : Ins) (xl : List Int) (a0 a1 a2 a3 a4 : Option Addr) (c0 c1 c2 c3 c4 : Nat) (hE : Env4 w i xl a0 a1 a2 a3 a4) :
    Calls Tryd.prog 4 #[.slice a0 xl.length c0, .slice a1 i.xs.length c1, .slice a2 i.xa.length c2, .slice a3 i.xb.length c3, .slice a4 i.xd.length c4] w fun e w' => e = .returned (.bool true) ∧ Below w.heap.size w w' := by
  by_cases h0 : 8192 < xl.length
  · exact concat_big w a0 a1 a2 a3 a4 _ _ _ _ _ c0 c1 c2 c3 c4 (.inl h0)
  · by_cases h1 : 8192 < i.xs.length
    · exact concat_big w a0 a1 a2 a3 a4 _ _ _ _ _ c0 c1 c2 c3 c4 (.inr ⟨by omega, .inl h1⟩)
    · by_cases h2 : 8192 < i.xa.length
      · exact concat_big w a0 a1 a2 a3 a4 _ _ _ _ _ c0 c1 c2 c3 c4 (.inr ⟨by omega, .inr ⟨by omega, .inl h2⟩⟩)
      · by_cases h3 : 8192 < i.xb.length
        · exact concat_big w a0 a1 a2 a3 a4 _ _ _ _ _ c0 c1 c2 c3 c4 (.inr ⟨by omega, .inr ⟨by omega, .inr ⟨by omega, .inl h3⟩⟩⟩)
        · by_cases h4 : 8192 < i.xd.length
          · exact concat_big w a0 a1 a2 a3 a4 _ _ _ _ _ c0 c1 c2 c3 c4 (.inr ⟨by omega, .inr ⟨by omega, .inr ⟨by omega, .inr ⟨by omega, h4⟩⟩⟩⟩)
          · exact concat_small w i xl a0 a1 a2 a3 a4 _ _ _ _ _ c0 c1 c2 c3 c4 hE rfl rfl rfl rfl rfl (by omega) (by omega) (by omega) (by omega) (by omega)

set_option maxRecDepth 100000 in
/-- A slice of one-cell values that came in. -/
theorem open_cells {H : Type} {enc : TypeId × Value → H} {W : World} {base : Nat} {v : Value} {d : DataW H} {ps : List MemPlace} {t e : TypeId} (hu : Tryd.prog.underlying t = some (.slice e)) (hce : Tryd.prog.cellsOf e = 1) (hval : Value.okWide Tryd.prog W .any base t v)
    (hd : DataW.Trod enc Tryd.prog W 0 (fun _ => true) true t v d ps) (good : Value → Prop) (hgood : ∀ n cs x, DataW.trod enc Tryd.prog W 0 (fun _ => true) true n e cs = some x → ∃ u, cs = [u] ∧ good u) :
    ∃ a c l, v = .slice a (List.length l) c ∧ InRow W a l ∧ ∀ u ∈ l, good u := by
  obtain ⟨a0, len0, cap0, rfl⟩ := okWide_slice hu hval
  obtain ⟨fuel, hf⟩ := hd
  rcases DataW.trod_slice hu hf with ⟨hcs, hx⟩ | ⟨a, len, cap, el, rs, m, rfl, hcs, hx, _, hlc, _, hel, helem, _, _⟩
  · have hcs' : [Value.slice a0 len0 cap0] = [Value.slice none 0 0] := hcs
    cases hcs'
    exact ⟨none, 0, [], rfl, fun j u hj => by simp at hj, fun u hu => by cases hu⟩
  · have hcs' : [Value.slice a0 len0 cap0] = [Value.slice (some a) len cap] := hcs
    cases hcs'
    have key : ∀ j, j < len0 → ∃ u, W.cell? ((a.add (j * 1)).add 0) = some u ∧ good u := by
      intro j hj
      have h1 := helem j hj
      rw [hce] at h1
      obtain ⟨b, hb⟩ : ∃ b, el[j]? = some b := ⟨el[j]'(by omega), List.getElem?_eq_getElem (by omega)⟩
      rw [hb] at h1
      obtain ⟨ce, hcell, hte⟩ := Option.bind_eq_some_iff.1 h1
      obtain ⟨u, hu1, hg⟩ := hgood _ _ _ hte
      obtain ⟨_, _, hcc⟩ := World.cells?_some hcell
      refine ⟨u, ?_, hg⟩
      rw [hcc 0 (by decide), hu1]
      rfl
    have hat : ∀ j, j < len0 → ((List.range len0).map fun j => (W.cell? ((a.add (j * 1)).add 0)).getD .nilIface)[j]? = some ((W.cell? ((a.add (j * 1)).add 0)).getD .nilIface) := by
      intro j hj
      rw [List.getElem?_map, List.getElem?_range hj]
      rfl
    refine ⟨some a, cap0, (List.range len0).map fun j => (W.cell? ((a.add (j * 1)).add 0)).getD .nilIface, by simp, fun j u hj => ?_, fun u hu => ?_⟩
    · have hlt : j < len0 := by
        have := (List.getElem?_eq_some_iff.1 hj).1
        simpa using this
      rw [hat j hlt] at hj
      obtain ⟨u', hu', -⟩ := key j hlt
      rw [hu'] at hj
      have e2 : u' = u := by simpa using hj
      subst e2
      obtain ⟨b, o, sp⟩ := a
      have hsp : sp = none := by
        obtain ⟨u0, hu0, -⟩ := key 0 (by omega)
        have : (Addr.add (Addr.add ⟨b, o, sp⟩ (0 * 1)) 0) = ⟨b, o, sp⟩ := by simp [Addr.add]
        rw [this] at hu0
        exact cell_spot hu0
      subst hsp
      refine ⟨b, o, rfl, ?_⟩
      rw [Addr.add_lit, Addr.add_lit] at hu'
      simpa using hu'
    · obtain ⟨j, hj, rfl⟩ := List.mem_map.1 hu
      rw [List.mem_range] at hj
      obtain ⟨u', hu', hg⟩ := key j hj
      rw [hu']
      exact hg

/-- The bits of a float. -/
def bitsOf : Value → Nat
  | .float _ b => b
  | _ => 0

theorem back_int {k : IntKind} {l : List Value} (h : ∀ u ∈ l, ∃ n, u = .int k n ∧ (Lit.int k n).wf = true) : l = (l.map RowKit.intOf).map (Value.int k) := by
  rw [List.map_map]
  have h2 : ∀ u ∈ l, (Value.int k ∘ RowKit.intOf) u = id u := fun u hu => by
    obtain ⟨n, rfl, -⟩ := h u hu
    rfl
  rw [List.map_congr_left h2, List.map_id]

theorem back_nat {l : List Value} (h : ∀ u ∈ l, ∃ n, u = .int .u64 n ∧ (Lit.int .u64 n).wf = true) : l = (l.map fun u => (RowKit.intOf u).toNat).map (fun x : Nat => Value.int .u64 x) := by
  rw [List.map_map]
  have h2 : ∀ u ∈ l, ((fun x : Nat => Value.int .u64 x) ∘ fun u => (RowKit.intOf u).toNat) u = id u := fun u hu => by
    obtain ⟨n, rfl, hw⟩ := h u hu
    obtain ⟨y, rfl, -⟩ := wf_u64 hw
    show Value.int .u64 (((y : Int).toNat : Nat) : Int) = Value.int .u64 (y : Int)
    rw [Int.toNat_natCast]
  rw [List.map_congr_left h2, List.map_id]

theorem back_float {l : List Value} (h : ∀ u ∈ l, ∃ b, u = .float .f64 b ∧ (Lit.float .f64 b).wf = true) : l = (l.map bitsOf).map (fun x : Nat => Value.float .f64 x) := by
  rw [List.map_map]
  have h2 : ∀ u ∈ l, ((fun x : Nat => Value.float .f64 x) ∘ bitsOf) u = id u := fun u hu => by
    obtain ⟨n, rfl, -⟩ := h u hu
    rfl
  rw [List.map_congr_left h2, List.map_id]

theorem Tryd.cells2 : Tryd.prog.cellsOf 2 = 1 := by kernel_rfl
theorem Tryd.cells23 : Tryd.prog.cellsOf 23 = 1 := by kernel_rfl

section
variable {H : Type} {enc : TypeId × Value → H} {W : World} {base : Nat} {v : Value} {d : DataW H} {ps : List MemPlace}

set_option maxRecDepth 100000 in
theorem open_ints {t e : TypeId} (hu : Tryd.prog.underlying t = some (.slice e)) (he : Tryd.prog.underlying e = some (.int .i64)) (hce : Tryd.prog.cellsOf e = 1) (hval : Value.okWide Tryd.prog W .any base t v) (hd : DataW.Trod enc Tryd.prog W 0 (fun _ => true) true t v d ps) :
    ∃ a c xs, v = .slice a (List.length xs) c ∧ InRow W a (xs.map (Value.int .i64)) ∧ ∀ x ∈ xs, -9223372036854775808 ≤ x ∧ x ≤ 9223372036854775807 := by
  obtain ⟨a, c, l, rfl, h1, h2⟩ := open_cells hu hce hval hd (fun u => ∃ n, u = .int .i64 n ∧ (Lit.int .i64 n).wf = true) (fun n cs x hx => by
    obtain ⟨z, hz, -, hw⟩ := DataW.trod_int he hx
    exact ⟨_, hz, z, rfl, hw⟩)
  refine ⟨a, c, l.map RowKit.intOf, congrArg (fun n => Value.slice a n c) (List.length_map _).symm, by rw [← back_int h2]; exact h1, fun x hx => ?_⟩
  obtain ⟨u, hu, rfl⟩ := List.mem_map.1 hx
  obtain ⟨n, rfl, hw⟩ := h2 u hu
  exact wf_i64 hw

set_option maxRecDepth 100000 in
theorem open_nats {t e : TypeId} (hu : Tryd.prog.underlying t = some (.slice e)) (he : Tryd.prog.underlying e = some (.int .u64)) (hce : Tryd.prog.cellsOf e = 1) (hval : Value.okWide Tryd.prog W .any base t v) (hd : DataW.Trod enc Tryd.prog W 0 (fun _ => true) true t v d ps) :
    ∃ a c xs, v = .slice a (List.length xs) c ∧ InRow W a (xs.map fun x : Nat => Value.int .u64 x) ∧ ∀ x ∈ xs, x < 18446744073709551616 := by
  obtain ⟨a, c, l, rfl, h1, h2⟩ := open_cells hu hce hval hd (fun u => ∃ n, u = .int .u64 n ∧ (Lit.int .u64 n).wf = true) (fun n cs x hx => by
    obtain ⟨z, hz, -, hw⟩ := DataW.trod_int he hx
    exact ⟨_, hz, z, rfl, hw⟩)
  refine ⟨a, c, l.map fun u => (RowKit.intOf u).toNat, congrArg (fun n => Value.slice a n c) (List.length_map _).symm, by rw [← back_nat h2]; exact h1, fun x hx => ?_⟩
  obtain ⟨u, hu, rfl⟩ := List.mem_map.1 hx
  obtain ⟨n, rfl, hw⟩ := h2 u hu
  obtain ⟨y, rfl, hy⟩ := wf_u64 hw
  exact hy

set_option maxRecDepth 100000 in
theorem trod_f64 {n : Nat} {e : TypeId} {cs : List Value} {x : DataW H × List MemPlace} (he : Tryd.prog.underlying e = some (.float .f64)) (h : DataW.trod enc Tryd.prog W 0 (fun _ => true) true n e cs = some x) : ∃ b, cs = [.float .f64 b] ∧ (Lit.float .f64 b).wf = true := by
  cases n with
  | zero => simp [DataW.trod] at h
  | succ n =>
    unfold DataW.trod at h
    rw [he] at h
    split at h <;> simp_all

set_option maxRecDepth 100000 in
theorem open_floats {t e : TypeId} (hu : Tryd.prog.underlying t = some (.slice e)) (he : Tryd.prog.underlying e = some (.float .f64)) (hce : Tryd.prog.cellsOf e = 1) (hval : Value.okWide Tryd.prog W .any base t v) (hd : DataW.Trod enc Tryd.prog W 0 (fun _ => true) true t v d ps) :
    ∃ a c xs, v = .slice a (List.length xs) c ∧ InRow W a (xs.map fun x : Nat => Value.float .f64 x) ∧ ∀ x ∈ xs, x < 18446744073709551616 := by
  obtain ⟨a, c, l, rfl, h1, h2⟩ := open_cells hu hce hval hd (fun u => ∃ n, u = .float .f64 n ∧ (Lit.float .f64 n).wf = true) (fun n cs x hx => by
    obtain ⟨z, hz, hw⟩ := trod_f64 he hx
    exact ⟨_, hz, z, rfl, hw⟩)
  refine ⟨a, c, l.map bitsOf, congrArg (fun n => Value.slice a n c) (List.length_map _).symm, by rw [← back_float h2]; exact h1, fun x hx => ?_⟩
  obtain ⟨u, hu, rfl⟩ := List.mem_map.1 hx
  obtain ⟨n, rfl, hw⟩ := h2 u hu
  exact wf_f64 hw
end

theorem params4 : Tryd.f4.params = #[39, 40, 41, 41, 42] := by kernel_rfl

set_option maxRecDepth 100000 in
theorem concat_witness (os : Os) (W0 : World) (hW0 : IsLaid os W0) {H : Type} (enc : TypeId × Value → H) :
    (OpenSpec.ofChange Rows.fnContactWriterRowsConcatenateSpec).preRow enc Tryd.prog Tryd.f4 Rows.fnContactWriterRowsConcatenateRow.domain false Rows.fnContactWriterRowsConcatenateRow.laid (W0.forCall (fun _ _ => 0) ⟨#[], #[.slice none 0 0, .slice none 0 0, .slice none 0 0, .slice none 0 0, .slice none 0 0], []⟩).memory #[.slice none 0 0, .slice none 0 0, .slice none 0 0, .slice none 0 0, .slice none 0 0] := by
  have hm := laid_met os W0 hW0 #[.slice none 0 0, .slice none 0 0, .slice none 0 0, .slice none 0 0, .slice none 0 0]
  have hw : ∀ W1, IsLaid os W1 → (DataW.whole enc Tryd.prog (W1.forCall (fun _ _ => 0) ⟨#[], #[.slice none 0 0, .slice none 0 0, .slice none 0 0, .slice none 0 0, .slice none 0 0], []⟩).memory Tryd.f4.params.toList (OpenSpec.ofChange Rows.fnContactWriterRowsConcatenateSpec).vars false #[Value.slice none 0 0, .slice none 0 0, .slice none 0 0, .slice none 0 0, .slice none 0 0].toList 8).map (fun x => (x.1, x.2.1)) =
      some ([.nil, .nil, .nil, .nil, .nil], []) := by
    intro W1 h1
    unfold IsLaid at h1
    subst h1
    kernel_rfl
  obtain ⟨⟨x1, x2, x3⟩, hx, hx1⟩ := Option.map_eq_some_iff.1 (hw W0 hW0)
  simp only [Prod.mk.injEq] at hx1
  obtain ⟨rfl, rfl⟩ := hx1
  exact OpenSpec.preRow_of_cond 8 hx (by kernel_rfl) (fun k hk => by cases hk) (by kernel_rfl) hm

set_option maxRecDepth 100000 in
theorem concat_input (os : Os) (W0 : World) (hW0 : IsLaid os W0) : Input.okWideB Tryd.prog (W0.forCall (fun _ _ => 0) ⟨#[], #[.slice none 0 0, .slice none 0 0, .slice none 0 0, .slice none 0 0, .slice none 0 0], []⟩) 4 ⟨#[], #[.slice none 0 0, .slice none 0 0, .slice none 0 0, .slice none 0 0, .slice none 0 0], []⟩ = true := by
  unfold IsLaid at hW0
  subst hW0
  kernel_rfl

set_option maxRecDepth 100000 in
set_option maxHeartbeats 4000000 in
theorem concat_lifted (os : Os) (started : os.Started) (H : Type) (enc : TypeId × Value → H) (F : Stop.Interp) :
    ReturnsInHanded {} Tryd.checked os 4 .any ((OpenSpec.ofChange Rows.fnContactWriterRowsConcatenateSpec).preRow enc Tryd.prog Tryd.f4 Rows.fnContactWriterRowsConcatenateRow.domain false Rows.fnContactWriterRowsConcatenateRow.laid) (((OpenSpec.ofChange Rows.fnContactWriterRowsConcatenateSpec).at F).post enc Tryd.prog Tryd.f4 false true false false) := by
  obtain ⟨W0, hW0⟩ : ∃ W0, IsLaid os W0 := ⟨_, rfl⟩
  refine returnsInHanded_of_row (C := Tryd.checked) (s := OpenSpec.ofChange Rows.fnContactWriterRowsConcatenateSpec) Tryd.own started (by kernel_rfl) Tryd.func4
    ⟨W0, fun _ _ => 0, ⟨#[], #[.slice none 0 0, .slice none 0 0, .slice none 0 0, .slice none 0 0, .slice none 0 0], []⟩, by unfold IsLaid at hW0; subst hW0; rfl, laid_shape os W0 hW0 _, (Input.okWide_of_okWideB (base := 0) (concat_input os W0 hW0)).1, (Input.okWide_of_okWideB (concat_input os W0 hW0)).2, concat_witness os W0 hW0 enc, by simp [Assume.holds]⟩ ?_
  intro W base args ds gs before hval0 hW _ _ _ hL0 _ _
  have hL : laidMet Tryd.prog theLaid W := by
    have h := hL0
    rw [MakeChecks.laidMetH_plain _ _ _ (by kernel_rfl)] at h
    exact h
  have htab := tabs_of_laid hL
  clear hL0 hL
  have hval : ∀ (j : Nat) t v, Tryd.f4.params[j]? = some t → args[j]? = some v → Value.okWide Tryd.prog W .any base t v := hval0
  have hW' := hW
  obtain ⟨p, q, hA0, hV0, rfl, _, _⟩ := hW
  have hA : DataW.TrodAll enc Tryd.prog W 0 (fun _ => true) true Tryd.f4.params.toList args.toList ds p := hA0
  rw [params4] at hA hval
  obtain ⟨rfl, rfl⟩ := trodVars_none hV0
  obtain ⟨args⟩ := args
  obtain ⟨v0, vs0, d0, ds0, p0, q0, e0, rfl, rfl, h0, hA⟩ := trodAll_cons hA
  obtain ⟨v1, vs1, d1, ds1, p1, q1, e1, rfl, rfl, h1, hA⟩ := trodAll_cons hA
  obtain ⟨v2, vs2, d2, ds2, p2, q2, e2, rfl, rfl, h2, hA⟩ := trodAll_cons hA
  obtain ⟨v3, vs3, d3, ds3, p3, q3, e3, rfl, rfl, h3, hA⟩ := trodAll_cons hA
  obtain ⟨v4, vs4, d4, ds4, p4, q4, e4, rfl, rfl, h4, hA⟩ := trodAll_cons hA
  obtain ⟨rfl, rfl, rfl⟩ := trodAll_nil hA
  subst e4; subst e3; subst e2; subst e1
  replace e0 : args = [v0, v1, v2, v3, v4] := e0
  subst e0
  obtain ⟨a0, c0, x0, rfl, s0, -⟩ := open_ints Tryd.underlying39 Tryd.underlying3 Tryd.cells3 (hval 0 39 v0 rfl rfl) h0
  obtain ⟨a1, c1, x1, rfl, s1, b1⟩ := open_ints Tryd.underlying40 Tryd.underlying2 Tryd.cells2 (hval 1 40 v1 rfl rfl) h1
  obtain ⟨a2, c2, x2, rfl, s2, b2⟩ := open_nats Tryd.underlying41 Tryd.underlying22 Tryd.cells22 (hval 2 41 v2 rfl rfl) h2
  obtain ⟨a3, c3, x3, rfl, s3, b3⟩ := open_nats Tryd.underlying41 Tryd.underlying22 Tryd.cells22 (hval 3 41 v3 rfl rfl) h3
  obtain ⟨a4, c4, x4, rfl, s4, b4⟩ := open_floats Tryd.underlying42 Tryd.underlying23 Tryd.cells23 (hval 4 42 v4 rfl rfl) h4
  refine (concat_any W ⟨x1, x2, x3, x4⟩ x0 a0 a1 a2 a3 a4 c0 c1 c2 c3 c4 ⟨⟨b1, b2, b3, b4⟩, htab, s0, s1, s2, s3, s4⟩).mono ?_
  rintro e W' ⟨rfl, bel⟩
  refine ⟨_, rfl, _, _, _, [], p0 ++ (p1 ++ (p2 ++ (p3 ++ (p4 ++ [])))), [], hW', ?_, ?_, ?_, bel.frame _, fun h => by cases h⟩
  · exact trodAll_mk1 (shut_bool Tryd.underlying4 true)
  · exact trodAll_below Tryd.laidOut bel (fun t ht => by
      rw [params4] at ht
      simp only [List.mem_cons, List.not_mem_nil, or_false] at ht
      rcases ht with rfl | rfl | rfl | rfl | rfl
      all_goals exact ⟨by kernel_rfl, of_decide_eq_true (by kernel_rfl)⟩) hA0 (fun x hx => hW'.lt x (by simpa using hx))
  · rfl

end Go.Proofs.Qxb6614069aDoor
