import Derived.Test.Qxb6612546aFmtLaid
import Derived.Test.Qxb6612546aFmtSmall
import Derived.Stop.JoinedShaped
import Derived.Stop.LaidErr
import Derived.Stop.Told
import Derived.LaidSub
import Derived.SliceStrings
import Derived.ProofKit
namespace Go.Proofs.Qxb6612546aFmt
open Go.ChangeShapes Go.WideShapes Go.ChangeAt Go.RowKit Go.Lib
open Go.ChangeMaps (open_string shut_string)
open Go.Extern.Stop Go.Stop Go.Extern

theorem Tryf.own : ownKnob Tryf.prog.godebug = none := by kernel_rfl
theorem Tryf.laidOut : laidOutB Tryf.prog = true := by kernel_rfl
theorem Tryf.cells9 : Tryf.prog.cellsOf 9 = 1 := by kernel_rfl

theorem trodAll_below {H : Type} {enc : TypeId × Value → H} {P : Program} (hl : laidOutB P = true) {W W' : World} (hb : Below W.heap.size W W') :
    ∀ {ts : List TypeId} {vs : List Value} {ds : List (DataW H)} {ps : List MemPlace}, (∀ t ∈ ts, P.readableRec t = true ∧ t < P.types.size) → DataW.TrodAll enc P W 0 (fun _ => true) true ts vs ds ps → (∀ x ∈ ps, x.block < W.heap.size) →
      DataW.TrodAll enc P W' 0 (fun b => decide (b < W.heap.size)) true ts vs ds ps := by
  intro ts
  induction ts with
  | nil =>
    intro vs ds ps _ h _
    obtain ⟨rfl, rfl, rfl⟩ := trodAll_nil h
    exact h
  | cons t ts ih =>
    intro vs ds ps ht h hlt
    obtain ⟨v, vs1, d, ds1, a, b, rfl, rfl, rfl, h1, h2⟩ := trodAll_cons h
    have k1 := Below.trod hl (ht t (by simp)).1 (ht t (by simp)).2 h1 hb (fun x hx => hlt x (by simp [hx]))
    have k2 := ih (fun t' h' => ht t' (by simp [h'])) h2 (fun x hx => hlt x (by simp [hx]))
    exact ⟨a, b, k1, k2, rfl⟩

set_option maxRecDepth 100000 in
/-- A list of strings that came in. -/
theorem open_strS {H : Type} {enc : TypeId × Value → H} {W : World} {base : Nat} {v : Value} {d : DataW H} {ps : List MemPlace} (hval : Value.okWide Tryf.prog W .any base 22 v)
    (hd : DataW.Trod enc Tryf.prog W 0 (fun _ => true) true 22 v d ps) : ∃ a c xs, v = .slice a xs.length c ∧ StrS W v xs := by
  obtain ⟨a0, len, cap, rfl⟩ := okWide_slice Tryf.underlying22 hval
  obtain ⟨fuel, hf⟩ := hd
  rcases open_strings Tryf.underlying22 Tryf.underlying9 Tryf.cells9 hf with ⟨hcs, hx⟩ | ⟨a, len', cap', ss, hcs, _, hl, hm, hz, hx, hcell, _⟩
  · have hcs' : [Value.slice a0 len cap] = [Value.slice none 0 0] := hcs
    cases hcs'
    exact ⟨none, 0, [], rfl, StrS.nil _⟩
  · have hcs' : [Value.slice a0 len cap] = [Value.slice (some a) len' cap'] := hcs
    cases hcs'
    simp only [if_true] at hz
    have hlen : (ss.take len).length = len := by simp; omega
    obtain ⟨b, off, spot⟩ := a
    refine ⟨some ⟨b, off, spot⟩, cap, ss.take len, by rw [hlen], ⟨some ⟨b, off, spot⟩, cap, by rw [hlen], by omega, by simp, fun i s hi => ?_⟩⟩
    have hj : i < len := by
      have := (List.getElem?_eq_some_iff.1 hi).1
      simp at this
      omega
    have hspot : spot = none := by simpa [Addr.add] using World.cell?_spot (hcell 0 (by omega))
    subst hspot
    have hX' : ss.getD i ByteArray.empty = s := by
      rw [List.getElem?_take_of_lt hj] at hi
      simp [List.getD, hi]
    refine ⟨b, off, rfl, ?_⟩
    rw [← hX']
    have hh := hcell i (by omega)
    rw [show (⟨b, off + i, none⟩ : Addr) = Addr.add ⟨b, off, none⟩ i from by
      unfold Addr.add
      by_cases h0 : i = 0
      · subst h0; simp
      · simp [h0]]
    exact hh

/-- The k-th listed variable's name. -/
def nAt (k : Nat) : String := (theLaid.map Prod.fst).getD k (String.ofList [])

theorem Tryf.gFirst : Tryf.prog.globalNamed (nAt 10) = some 10 := by kernel_rfl
theorem Tryf.gAccept : Tryf.prog.globalNamed (nAt 0) = some 11 := by kernel_rfl
theorem Tryf.yFirst : (Tryf.prog.globals[10]?).map (·.type) = some 131 := by kernel_rfl
theorem Tryf.yAccept : (Tryf.prog.globals[11]?).map (·.type) = some 134 := by kernel_rfl
theorem Tryf.und131 : Tryf.prog.underlying 131 = some (.array 256 5) := by kernel_rfl
theorem Tryf.und134 : Tryf.prog.underlying 134 = some (.array 16 133) := by kernel_rfl
theorem Tryf.cells5 : Tryf.prog.cellsOf 5 = 1 := by kernel_rfl
theorem Tryf.cells131 : Tryf.prog.cellsOf 131 = 256 := by kernel_rfl
theorem Tryf.cells133 : Tryf.prog.cellsOf 133 = 2 := by kernel_rfl
theorem Tryf.st133 : ∃ fs, Tryf.prog.underlying 133 = some (.struct fs) ∧ fs.map (fun f => (f.type, f.offset)) = #[(5, 0), (5, 1)] := by
  have h : (match Tryf.prog.underlying 133 with | some (.struct fs) => some (fs.map fun f => (f.type, f.offset)) | _ => none) = some #[(5, 0), (5, 1)] := by kernel_rfl
  cases hu : Tryf.prog.underlying 133 with
  | none => rw [hu] at h; cases h
  | some d =>
    cases d <;> rw [hu] at h <;> first | cases h | skip
    rename_i fs
    exact ⟨fs, rfl, by simpa using h⟩

theorem tabs_of_laid {w : World} (hL : laidMet Tryf.prog theLaid w) : Lib.Utf8Tabs 10 11 w := by
  have h3 : VarReads Tryf.prog w (nAt 10) firstData := Lib.laidMet.reads hL (List.mem_of_getElem? (i := 10) (by rw [← dFirst]; rfl))
  have h4 : VarReads Tryf.prog w (nAt 0) acceptData := Lib.laidMet.reads hL (List.mem_of_getElem? (i := 0) (by rw [← dAccept]; rfl))
  refine ⟨fun c hc => ?_, fun i hi => ?_⟩
  · obtain ⟨g, t, cs, fuel, p, hg, hty, hvar, hd⟩ := h3
    obtain rfl := Option.some.inj (Tryf.gFirst.symm.trans hg)
    obtain rfl := Option.some.inj (Tryf.yFirst.symm.trans hty)
    have hcs := cells_of_tab Tryf.und131 Tryf.underlying5 Tryf.cells5 Tryf.cells131 hd
    have := World.var?_cell hg hvar c
    rw [this, ← Array.getElem?_toList, hcs]
    simp [firstTab, hc]
  · obtain ⟨g, t, cs, fuel, p, hg, hty, hvar, hd⟩ := h4
    obtain rfl := Option.some.inj (Tryf.gAccept.symm.trans hg)
    obtain rfl := Option.some.inj (Tryf.yAccept.symm.trans hty)
    obtain ⟨fuel', d, q, hdi, he⟩ := array_elem Tryf.und134 hd i hi
    simp only [List.getElem?_map, List.getElem?_range hi, Option.map_some, Option.some.injEq] at hdi
    subst hdi
    rw [Tryf.cells133] at he
    obtain ⟨fs, hst, hfs⟩ := Tryf.st133
    have hsz : fs.size = 2 := by have := congrArg Array.size hfs; simpa using this
    have hcs := ints_of_struct hst (fun j f hj => by
      have h1 : (fs.map (fun f => (f.type, f.offset)))[j]? = some (f.type, f.offset) := by simp [hj]
      rw [hfs] at h1
      match j, h1 with
      | 0, h1 => simp at h1; rw [← h1.1, ← h1.2]; exact ⟨Tryf.underlying5, rfl, Tryf.cells5⟩
      | 1, h1 => simp at h1; rw [← h1.1, ← h1.2]; exact ⟨Tryf.underlying5, rfl, Tryf.cells5⟩
      | j + 2, h1 => simp at h1) (by rw [Tryf.cells133, hsz]) he
    have e0 := congrArg (·[0]?) hcs
    have e1 := congrArg (·[1]?) hcs
    simp only [List.getElem?_take, List.getElem?_drop] at e0 e1
    constructor
    · rw [World.var?_cell hg hvar (2 * i), ← Array.getElem?_toList]
      simpa [Nat.mul_comm] using e0
    · rw [World.var?_cell hg hvar (2 * i + 1), ← Array.getElem?_toList]
      simpa [Nat.mul_comm] using e1

/-- The dynamic type's name, as the list bears it. -/
def starOf : Option (String × DataW Unit) → String
  | some (_, .iface n _) => n
  | _ => String.ofList []
def star : String := starOf theLaid[1]?
theorem star_is (x : String) (h : x = String.singleton '*') : x ++ "errors.errorString" = star := by
  subst h; decide
theorem Tryf.row84 (u : TypeId) (h : Tryf.prog.typeName? 3 u = some star) : u = 84 :=
  typeName_ptr_named (nm := "errors.errorString") (by rw [star_is _ (by decide)]; kernel_rfl) (by kernel_rfl) (by decide) u (by rw [star_is _ (by decide)]; exact h)
theorem Tryf.cells86 : Tryf.prog.cellsOf 86 = 1 := by kernel_rfl
theorem Tryf.st86 : ∃ f : Field, Tryf.prog.underlying 86 = some (.struct #[f]) ∧ f.type = 9 ∧ f.offset = 0 := by
  have h : (match Tryf.prog.underlying 86 with | some (.struct fs) => some (fs.map fun f => (f.type, f.offset)) | _ => none) = some #[(9, 0)] := by kernel_rfl
  cases hu : Tryf.prog.underlying 86 with
  | none => rw [hu] at h; cases h
  | some d =>
    cases d <;> rw [hu] at h <;> first | cases h | skip
    rename_i fs
    simp only [Option.some.injEq] at h
    have hsz : fs.size = 1 := by have := congrArg Array.size h; simpa using this
    obtain ⟨f, rfl⟩ : ∃ f, fs = #[f] := by
      obtain ⟨l⟩ := fs
      match l, hsz with
      | [f], _ => exact ⟨f, rfl⟩
    simp at h
    exact ⟨f, rfl, h.1, h.2⟩

set_option maxRecDepth 100000 in
/-- One sentinel off what is laid. -/
theorem sent_of_laid {w : World} (hL : laidMet Tryf.prog theLaid w) (n : String) (text : List UInt8) (g : Nat) (hf : (theLaid.filter fun x => x.1 == n) = [(n, .iface star (.ptr (.agg [.lit (.string text)])))])
    (hg : Tryf.prog.globalNamed n = some g) (ht : (Tryf.prog.globals[g]?).map (·.type) = some 33) :
    ∃ (a : Addr) (s : ByteArray), w.cell? ⟨g, 0, none⟩ = some (.iface 84 (.pointer (some a))) ∧ w.cell? a = some (.string s) ∧ s.data.toList = text ∧ ∃ ca ta, w.heap[a.block]? = some (.cells ca ta (0, 0)) := by
  have h := laidMet.filter (fun x => x.1 == n) hL
  rw [hf] at h
  obtain ⟨ms, hi⟩ := Tryf.und33
  obtain ⟨f, he, hft, hfo⟩ := Tryf.st86
  obtain ⟨ps, ⟨g0, t0, cs0, f0, p0, q0, hg0, ht0, hv0, hd0, _, e0⟩, _, hrows⟩ := h
  obtain rfl := Option.some.inj (hg.symm.trans hg0)
  obtain rfl := Option.some.inj (ht.symm.trans ht0)
  subst e0
  obtain ⟨l0⟩ := cs0
  have ok0 : ∀ u v, l0 = [.iface u v] → Value.okWide Tryf.prog w .any 0 u v := fun u v e => by
    subst e
    exact (hrows g 0 (by simp [MemPlace.row])).2 u v (by simpa using World.var?_cell hg0 hv0 0)
  obtain ⟨a0, s0, rfl, hc0, hs0, _, hp0⟩ := errorString_of_trod hi Tryf.row84 Tryf.underlying84 he hft hfo Tryf.underlying9 Tryf.cells86 Tryf.cells9 hd0 ok0
  refine ⟨a0, s0, by simpa using World.var?_cell hg0 hv0 0, hc0, hs0, (hrows a0.block a0.off ?_).1⟩
  rw [hp0]
  simp [MemPlace.row]

set_option maxRecDepth 100000 in
/-- The globals as the walks want them. -/
theorem env_of_laid {w : World} (hL : laidMet Tryf.prog theLaid w) : ∃ ea fa, Env w w.heap.size ea fa := by
  obtain ⟨ea, es, e1, e2, e3, e4⟩ := sent_of_laid hL (nAt 1) [69, 79, 70] 0 (by rfl) (by kernel_rfl) (by kernel_rfl)
  obtain ⟨fa, ft, f1, f2, f3, f4⟩ := sent_of_laid hL (nAt 4) [98, 117, 102, 105, 111, 58, 32, 98, 117, 102, 102, 101, 114, 32, 102, 117, 108, 108] 5 (by rfl) (by kernel_rfl) (by kernel_rfl)
  obtain ⟨a2, _, g2, _⟩ := sent_of_laid hL (nAt 6) [98, 97, 114, 101, 32, 34, 32, 105, 110, 32, 110, 111, 110, 45, 113, 117, 111, 116, 101, 100, 45, 102, 105, 101, 108, 100] 2 (by rfl) (by kernel_rfl) (by kernel_rfl)
  obtain ⟨a3, _, g3, _⟩ := sent_of_laid hL (nAt 7) [101, 120, 116, 114, 97, 110, 101, 111, 117, 115, 32, 111, 114, 32, 109, 105, 115, 115, 105, 110, 103, 32, 34, 32, 105, 110, 32, 113, 117, 111, 116, 101, 100, 45, 102, 105, 101, 108, 100] 3 (by rfl) (by kernel_rfl) (by kernel_rfl)
  obtain ⟨a4, _, g4, _⟩ := sent_of_laid hL (nAt 8) [119, 114, 111, 110, 103, 32, 110, 117, 109, 98, 101, 114, 32, 111, 102, 32, 102, 105, 101, 108, 100, 115] 4 (by rfl) (by kernel_rfl) (by kernel_rfl)
  have ht := tabs_of_laid hL
  have h11 : 11 < w.heap.size := World.block_lt_of_cell? w _ (ht.2 0 (by omega)).1
  refine ⟨ea, fa, ⟨e1, f1, e4, f4, ?_, ⟨a2, g2⟩, ⟨a3, g3⟩, ⟨a4, g4⟩, by omega, World.block_lt_of_cell? w _ e2, World.block_lt_of_cell? w _ f2⟩, ht, h11⟩
  rintro rfl
  rw [e2] at f2
  simp only [Option.some.injEq, Value.string.injEq] at f2
  rw [← f2, e3] at f3
  cases f3
end Go.Proofs.Qxb6612546aFmt
