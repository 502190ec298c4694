import Derived.Test.Qxb6614069aDoorLaid
import Derived.Test.Qxb6614069aDoorFtoa5
import Derived.Lib.LaidCase
namespace Go.Proofs.Qxb6614069aDoor
open Go.Lib

/-- The k-th listed variable's name. -/
def nAt (k : Nat) : String := (theLaid.map Prod.fst).getD k (String.ofList [])

theorem dPow : (Rows.laid_internal_strconv_uint64pow10 : DataW Unit) = Lib.tabData .u64 Lib.pow10Tab := by kernel_rfl
theorem Tryd.gU : Tryd.prog.globalNamed powName = some 1 := by kernel_rfl
theorem Tryd.yU : (Tryd.prog.globals[1]?).map (·.type) = some 88 := by kernel_rfl
theorem Tryd.cells88 : Tryd.prog.cellsOf 88 = 20 := by kernel_rfl
theorem Tryd.gOpt : Tryd.prog.globalNamed (nAt 2) = some 2 := by kernel_rfl
theorem Tryd.yOpt : (Tryd.prog.globals[2]?).map (·.type) = some 4 := by kernel_rfl
theorem Tryd.gCh : Tryd.prog.globalNamed (nAt 5) = some 6 := by kernel_rfl
theorem Tryd.yCh : (Tryd.prog.globals[6]?).map (·.type) = some 135 := by kernel_rfl
theorem Tryd.cells134 : Tryd.prog.cellsOf 134 = 2 := by kernel_rfl
theorem Tryd.cells3 : Tryd.prog.cellsOf 3 = 1 := by kernel_rfl
theorem Tryd.cells9 : Tryd.prog.cellsOf 9 = 1 := by kernel_rfl
theorem pow10Tab_at (n : Nat) (h : n < 20) : (Lib.pow10Tab.map fun z => Value.int .u64 z)[n]? = some (.int .u64 ((10 ^ n : Nat) : Int)) := by
  have h2 : ∀ i : Fin 20, (Lib.pow10Tab.map fun z => Value.int .u64 z)[i.val]? = some (.int .u64 ((10 ^ i.val : Nat) : Int)) := by
    intro i
    have h3 : (List.range 20).all (fun n => Lib.pow10Tab[n]? == some ((10 ^ n : Nat) : Int)) = true := by kernel_rfl
    have h4 := List.all_eq_true.1 h3 i.val (List.mem_range.2 i.isLt)
    have h5 : Lib.pow10Tab[i.val]? = some ((10 ^ i.val : Nat) : Int) := by simpa using h4
    rw [List.getElem?_map, h5]
    rfl
  exact h2 ⟨n, h⟩

set_option maxRecDepth 100000 in
theorem pow_of_laid {w : World} (hL : laidMet Tryd.prog theLaid w) : PowTab w ∧ PowC w := by
  have h3 : VarReads Tryd.prog w powName (Lib.tabData .u64 Lib.pow10Tab) := Lib.laidMet.reads hL (List.mem_of_getElem? (i := 3) (by rw [← dPow]; rfl))
  obtain ⟨g, t, cs, fuel, p, hg, hty, hvar, hd⟩ := h3
  obtain rfl := Option.some.inj (Tryd.gU.symm.trans hg)
  obtain rfl := Option.some.inj (Tryd.yU.symm.trans hty)
  have hcs := cells_of_tab Tryd.underlying88 Tryd.underlying22 Tryd.cells22 Tryd.cells88 hd
  refine ⟨?_, fun n hn => ?_⟩
  · show w.var? Tryd.prog powName = _
    rw [hvar, ← hcs]
  · rw [World.var?_cell hg hvar n, ← Array.getElem?_toList, hcs]
    exact pow10Tab_at n hn

set_option maxRecDepth 100000 in
theorem opt_of_laid {w : World} (hL : laidMet Tryd.prog theLaid w) : w.cell? ⟨2, 0, none⟩ = some (.bool true) := by
  have h3 : VarReads Tryd.prog w (nAt 2) (.lit (.bool true)) := Lib.laidMet.reads hL (List.mem_of_getElem? (i := 2) rfl)
  obtain ⟨g, t, cs, fuel, p, hg, hty, hvar, hd⟩ := h3
  obtain rfl := Option.some.inj (Tryd.gOpt.symm.trans hg)
  obtain rfl := Option.some.inj (Tryd.yOpt.symm.trans hty)
  obtain ⟨b, hb, hx⟩ := DataW.trod_bool Tryd.underlying4 hd
  have hb2 : b = true := by cases hx; rfl
  rw [World.var?_cell hg hvar 0, ← Array.getElem?_toList, hb, hb2]
  rfl

theorem pow350 : Go.Pinned.pow10Rows[350]? = some (14411518807585587200, 0) := by kernel_rfl
theorem pow351 : Go.Pinned.pow10Rows[351]? = some (18014398509481984000, 0) := by kernel_rfl

set_option maxRecDepth 100000 in
theorem p10_of_laid {w : World} (hL : laidMet Tryd.prog theLaid w) : P10 w := by
  have h3 : VarReads Tryd.prog w nPow Go.Pinned.pow10Tab := Lib.laidMet.reads hL (List.mem_of_getElem? (i := 6) rfl)
  obtain ⟨g, t, cs, fuel, p, hg, hty, hvar, hd⟩ := h3
  obtain rfl := Option.some.inj (Tryd.gPow.symm.trans hg)
  obtain rfl := Option.some.inj (Tryd.yPow.symm.trans hty)
  have key : ∀ (i hi lo : Nat), i < 696 → Go.Pinned.pow10Rows[i]? = some (hi, lo) → w.cell? ⟨5, i * 2, none⟩ = some (.int .u64 (hi : Int)) ∧ w.cell? ⟨5, i * 2 + 1, none⟩ = some (.int .u64 (lo : Int)) := by
    intro i hi lo hlt hrow
    obtain ⟨fuel', d, q, hdi, he⟩ := array_elem Tryd.underlying128 hd i hlt
    rw [List.getElem?_map, hrow, Option.map_some, Option.some.injEq] at hdi
    subst hdi
    rw [Tryd.cells127] at he
    have hcs := ints_of_struct (zs := [(hi : Int), (lo : Int)]) Tryd.underlying127 (fun j f hj => by
      match j, hj with
      | 0, hj => simp at hj; subst hj; exact ⟨Tryd.underlying22, rfl, Tryd.cells22⟩
      | 1, hj => simp at hj; subst hj; exact ⟨Tryd.underlying22, rfl, Tryd.cells22⟩
      | j + 2, hj => simp at hj) (by rw [Tryd.cells127]; rfl) he
    have e0 := congrArg (·[0]?) hcs
    have e1 := congrArg (·[1]?) hcs
    simp only [List.getElem?_take, List.getElem?_drop] at e0 e1
    constructor
    · rw [World.var?_cell hg hvar (i * 2), ← Array.getElem?_toList]
      simpa using e0
    · rw [World.var?_cell hg hvar (i * 2 + 1), ← Array.getElem?_toList]
      simpa using e1
  obtain ⟨a1, a2⟩ := key 350 _ _ (by decide) pow350
  obtain ⟨a3, a4⟩ := key 351 _ _ (by decide) pow351
  exact ⟨a1, a2, a3, a4⟩

theorem cheats_len : Go.Pinned.cheatRows.length = 61 := by kernel_rfl

set_option maxRecDepth 100000 in
theorem cheats_of_laid {w : World} (hL : laidMet Tryd.prog theLaid w) : Cheats w := by
  have h3 : VarReads Tryd.prog w (nAt 5) Go.Pinned.leftcheats := Lib.laidMet.reads hL (List.mem_of_getElem? (i := 5) rfl)
  obtain ⟨g, t, cs, fuel, p, hg, hty, hvar, hd⟩ := h3
  obtain rfl := Option.some.inj (Tryd.gCh.symm.trans hg)
  obtain rfl := Option.some.inj (Tryd.yCh.symm.trans hty)
  rcases DataW.trod_slice Tryd.underlying135 hd with ⟨hcs, hx⟩ | ⟨a, len, cap, el, rs, m, rfl, hcs, hx, _, hlc, _, hel, helem, _, _⟩
  · exfalso
    have := congrArg Prod.fst hx
    cases this
  · have eE : el.map (·.1) = Go.Pinned.cheatRows.map fun x => (DataW.agg [.lit (.int .i64 x.1), .lit (.string x.2)] : DataW Unit) := by
      have h4 := congrArg Prod.fst hx
      have h5 : Go.Pinned.leftcheats = .slice (el.map (·.1)) (rs.map (·.1)) := h4
      unfold Go.Pinned.leftcheats at h5
      simp only [DataW.slice.injEq] at h5
      exact h5.1.symm
    have hlen : len = 61 := by
      have := congrArg List.length eE
      rw [List.length_map, List.length_map, cheats_len] at this
      omega
    subst hlen
    have key : ∀ k d s, Go.Pinned.cheatRows[k]? = some (d, s) → w.cell? ((a.add (k * 2)).add 0) = some (.int .i64 (d : Nat)) ∧ w.cell? ((a.add (k * 2)).add 1) = some (.string ⟨s.toArray⟩) := by
      intro k d s hk
      have hk61 : k < 61 := by
        have := (List.getElem?_eq_some_iff.1 hk).1
        rw [cheats_len] at this
        exact this
      have h1 := helem k hk61
      rw [Tryd.cells134] at h1
      obtain ⟨b, hb⟩ : ∃ b, el[k]? = some b := ⟨el[k]'(by omega), List.getElem?_eq_getElem (by omega)⟩
      rw [hb] at h1
      obtain ⟨ce, hce, hte⟩ := Option.bind_eq_some_iff.1 h1
      have hb1 : b.1 = .agg [.lit (.int .i64 (d : Nat)), .lit (.string s)] := by
        have := congrArg (·[k]?) eE
        simp only [List.getElem?_map, hb, hk, Option.map_some, Option.some.injEq] at this
        exact this
      obtain ⟨xs, n, rfl, hxx, hl, hxl, hall⟩ := DataW.trod_struct Tryd.underlying134 hte
      have hx2 : xs.map (·.1) = [.lit (.int .i64 (d : Nat)), .lit (.string s)] := by
        rw [hxx] at hb1
        simpa using hb1
      obtain ⟨x0, x1, rfl⟩ : ∃ x0 x1, xs = [x0, x1] := by
        match xs, hx2 with
        | [x0, x1], _ => exact ⟨x0, x1, rfl⟩
      simp only [List.map_cons, List.map_nil, List.cons.injEq, and_true] at hx2
      obtain ⟨e0, e1⟩ := hx2
      have f0 := hall 0 _ rfl
      have f1 := hall 1 _ rfl
      change DataW.trod _ _ _ _ _ _ _ 3 ((ce.drop 0).take (Tryd.prog.cellsOf 3)) = some x0 at f0
      change DataW.trod _ _ _ _ _ _ _ 9 ((ce.drop 1).take (Tryd.prog.cellsOf 9)) = some x1 at f1
      rw [Tryd.cells3] at f0
      rw [Tryd.cells9] at f1
      have g0 : ce[0]? = some (.int .i64 (d : Nat)) := by
        obtain ⟨z, hz, hx', _⟩ := DataW.trod_int Tryd.underlying3 f0
        rw [hx'] at e0
        cases e0
        exact at_of_take hz
      have g1 : ce[1]? = some (.string ⟨s.toArray⟩) := by
        obtain ⟨z, hz, hx', _⟩ := DataW.trod_string Tryd.underlying9 f1
        rw [hx'] at e1
        cases e1
        exact at_of_take hz
      obtain ⟨_, _, hcc⟩ := World.cells?_some hce
      exact ⟨by rw [hcc 0 (by decide), g0], by rw [hcc 1 (by decide), g1]⟩
    obtain ⟨C, o, sp⟩ := a
    obtain ⟨d0, s0, h00⟩ : ∃ d s, Go.Pinned.cheatRows[0]? = some (d, s) := ⟨_, _, rfl⟩
    have hsp : sp = none := by
      have h4 := (key 0 d0 s0 h00).1
      have : (Addr.add (Addr.add ⟨C, o, sp⟩ (0 * 2)) 0) = ⟨C, o, sp⟩ := by simp [Addr.add]
      rw [this] at h4
      exact cell_spot h4
    subst hsp
    refine ⟨C, o, cap, hlc, ?_, fun k d s hk => ?_⟩
    · rw [World.var?_cell hg hvar 0, ← Array.getElem?_toList, hcs]
      rfl
    · obtain ⟨h4, h5⟩ := key k d s hk
      rw [Addr.add_lit, Addr.add_lit] at h4 h5
      exact ⟨by simpa using h4, by simpa using h5⟩

/-- What is laid stays, whatever the call makes. -/
theorem tabs_of_laid {w : World} (hL : laidMet Tryd.prog theLaid w) : TabsB w.heap.size w := by
  intro wr hb
  obtain ⟨t1, t2⟩ := pow_of_laid hL
  have t3 := opt_of_laid hL
  have t4 := p10_of_laid hL
  obtain ⟨C, o, c, h61, hc6, hck⟩ := cheats_of_laid hL
  have keep : ∀ (a : Addr) (v : Value), w.cell? a = some v → wr.cell? a = some v := fun a v h => by
    rw [World.cell?_of_block (a := a) (hb.block a.block (World.block_lt_of_cell? w _ h))]
    exact h
  refine ⟨?_, fun n hn => keep _ _ (t2 n hn), ⟨keep _ _ t4.h2, keep _ _ t4.l2, keep _ _ t4.h3, keep _ _ t4.l3⟩, ⟨C, o, c, h61, keep _ _ hc6, fun k d s hk => ⟨keep _ _ (hck k d s hk).1, keep _ _ (hck k d s hk).2⟩⟩, keep _ _ t3⟩
  have h1 : 1 < w.heap.size := World.block_lt_of_cell? w _ (t2 0 (by decide))
  show wr.var? Tryd.prog powName = _
  have e : wr.var? Tryd.prog powName = w.var? Tryd.prog powName := by
    unfold World.var?
    rw [Tryd.gU]
    simp only [Option.bind_some]
    rw [hb.block 1 h1]
  rw [e]
  exact t1

end Go.Proofs.Qxb6614069aDoor
