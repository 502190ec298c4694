import Derived.Test.Qxb6609067aFmtLaid
import Derived.Test.Qxb6609067aFmtEnv
import Derived.Test.Qxb6609067aFmtSitB
import Derived.Stop.JoinedShaped
import Derived.Stop.Told
import Derived.SliceStrings
import Derived.ProofKit
namespace Go.Proofs.Qxb6609067aFmt
open Go.ChangeShapes Go.WideShapes Go.ChangeAt Go.RowKit Go.Lib
open Go.ChangeMaps (open_string shut_string)
open Go.Extern.Stop Go.Stop Go.Extern

theorem Tryf.own : ownKnob Tryf.prog.godebug = none := by kernel_rfl
theorem Tryf.laidOut : laidOutB Tryf.prog = true := by kernel_rfl
theorem Tryf.cells9 : Tryf.prog.cellsOf 9 = 1 := by kernel_rfl

theorem trodAll_below {H : Type} {enc : TypeId × Value → H} {P : Program} (hl : laidOutB P = true) {W W' : World} (hb : Below W.heap.size W W') :
    ∀ {ts : List TypeId} {vs : List Value} {ds : List (DataW H)} {ps : List MemPlace}, (∀ t ∈ ts, P.readableRec t = true ∧ t < P.types.size) → DataW.TrodAll enc P W 0 (fun _ => true) true ts vs ds ps → (∀ x ∈ ps, x.block < W.heap.size) →
      DataW.TrodAll enc P W' 0 (fun b => decide (b < W.heap.size)) true ts vs ds ps := by
  intro ts
  induction ts with
  | nil =>
    intro vs ds ps _ h _
    obtain ⟨rfl, rfl, rfl⟩ := trodAll_nil h
    exact h
  | cons t ts ih =>
    intro vs ds ps ht h hlt
    obtain ⟨v, vs1, d, ds1, a, b, rfl, rfl, rfl, h1, h2⟩ := trodAll_cons h
    have k1 := Below.trod hl (ht t (by simp)).1 (ht t (by simp)).2 h1 hb (fun x hx => hlt x (by simp [hx]))
    have k2 := ih (fun t' h' => ht t' (by simp [h'])) h2 (fun x hx => hlt x (by simp [hx]))
    exact ⟨a, b, k1, k2, rfl⟩

set_option maxRecDepth 100000 in
/-- A list of strings that came in. -/
theorem open_strS {H : Type} {enc : TypeId × Value → H} {W : World} {base : Nat} {v : Value} {d : DataW H} {ps : List MemPlace} (hval : Value.okWide Tryf.prog W .any base 22 v)
    (hd : DataW.Trod enc Tryf.prog W 0 (fun _ => true) true 22 v d ps) : ∃ a c xs, v = .slice a xs.length c ∧ StrS W v xs := by
  obtain ⟨a0, len, cap, rfl⟩ := okWide_slice Tryf.underlying22 hval
  obtain ⟨fuel, hf⟩ := hd
  rcases open_strings Tryf.underlying22 Tryf.underlying9 Tryf.cells9 hf with ⟨hcs, hx⟩ | ⟨a, len', cap', ss, hcs, _, hl, hm, hz, hx, hcell, _⟩
  · have hcs' : [Value.slice a0 len cap] = [Value.slice none 0 0] := hcs
    cases hcs'
    exact ⟨none, 0, [], rfl, StrS.nil _⟩
  · have hcs' : [Value.slice a0 len cap] = [Value.slice (some a) len' cap'] := hcs
    cases hcs'
    simp only [if_true] at hz
    have hlen : (ss.take len).length = len := by simp; omega
    obtain ⟨b, off, spot⟩ := a
    refine ⟨some ⟨b, off, spot⟩, cap, ss.take len, by rw [hlen], ⟨some ⟨b, off, spot⟩, cap, by rw [hlen], by omega, by simp, fun i s hi => ?_⟩⟩
    have hj : i < len := by
      have := (List.getElem?_eq_some_iff.1 hi).1
      simp at this
      omega
    have hspot : spot = none := by simpa [Addr.add] using World.cell?_spot (hcell 0 (by omega))
    subst hspot
    have hX' : ss.getD i ByteArray.empty = s := by
      rw [List.getElem?_take_of_lt hj] at hi
      simp [List.getD, hi]
    refine ⟨b, off, rfl, ?_⟩
    rw [← hX']
    have hh := hcell i (by omega)
    rw [show (⟨b, off + i, none⟩ : Addr) = Addr.add ⟨b, off, none⟩ i from by
      unfold Addr.add
      by_cases h0 : i = 0
      · subst h0; simp
      · simp [h0]]
    exact hh

theorem Tryf.gT : Tryf.prog.globalNamed "strings.asciiSpace" = some 0 := by kernel_rfl

/-- The tables and the variable, off what is laid and off the world's shape. -/
theorem env_of_laid {W : World} (hL : laidMet Tryf.prog theLaid W) (hsh : W.ShapedOpen Tryf.prog) : Env1 W := by
  refine ⟨Tryf.laysM155.s1_3 W hsh, ?_, ?_, ?_⟩
  · obtain ⟨g, t, cs, fuel, p, hg, hty, hvar, hd⟩ := Lib.laidMet.reads hL (n := "strings.asciiSpace") (d := Lib.tabData .u8 Lib.asciiSpaceTab) (by rw [← dAscii]; simp [theLaid, Rows.fnEnvReadsLikeLabelOrOnePairRow])
    obtain rfl := Option.some.inj (Tryf.gT.symm.trans hg)
    obtain rfl := Option.some.inj ((show (Tryf.prog.globals[0]?).map (·.type) = some (Tryf.lays163_ren.t 119) by kernel_rfl).symm.trans hty)
    unfold Lib.TabIs
    rw [hvar, ← Lib.cells_of_tab Tryf.lays163.t119 Tryf.lays163.t5 (by kernel_rfl) (by kernel_rfl) hd]
  · exact utf8Tabs_of_reads (ρ := Tryf.lays163_ren) { Tryf.lays163 with } ⟨by kernel_rfl, by kernel_rfl, by kernel_rfl, by kernel_rfl, by kernel_rfl, by kernel_rfl, by kernel_rfl⟩
      (Lib.laidMet.reads hL (by rw [← dFirst]; simp [theLaid, Rows.fnEnvReadsLikeLabelOrOnePairRow])) (Lib.laidMet.reads hL (by rw [← dAccept]; simp [theLaid, Rows.fnEnvReadsLikeLabelOrOnePairRow]))
  · exact whiteTab_of_reads (ρ := Tryf.lays163_ren) { Tryf.lays163 with } ⟨by kernel_rfl, by kernel_rfl, by kernel_rfl, by kernel_rfl, by kernel_rfl, by kernel_rfl, by kernel_rfl, by kernel_rfl⟩ (Lib.laidMet.reads hL (by rw [← dWhite]; simp [theLaid, Rows.fnEnvReadsLikeLabelOrOnePairRow]))
end Go.Proofs.Qxb6609067aFmt
