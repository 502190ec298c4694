import Derived.Test.Qxb6612546aFmtLift
import Derived.Test.Qxb6612546aFmtEnc2
namespace Go.Proofs.Qxb6612546aFmt
open Go.ChangeShapes Go.WideShapes Go.ChangeAt Go.RowKit Go.Lib
open Go.Extern.Stop Go.Stop Go.Extern

theorem Tryf.cells22 : Tryf.prog.cellsOf 22 = 1 := by kernel_rfl

theorem addr_plus (b off i : Nat) : (⟨b, off + i, none⟩ : Addr) = Addr.add ⟨b, off, none⟩ i := by
  unfold Addr.add
  by_cases h0 : i = 0
  · subst h0; simp
  · simp [h0]

set_option maxRecDepth 100000 in
/-- Cells that read as a list of strings. -/
theorem strS_of_trod {H : Type} {enc : TypeId × Value → H} {W : World} {sp : Nat → Bool} {held : Bool} {fuel : Nat} {cs : List Value} {x : DataW H × List MemPlace} (hf : DataW.trod enc Tryf.prog W 0 sp held fuel 22 cs = some x) :
    ∃ a c xs, cs = [.slice a xs.length c] ∧ StrS W (.slice a xs.length c) xs := by
  rcases open_strings Tryf.underlying22 Tryf.underlying9 Tryf.cells9 hf with ⟨hcs, _⟩ | ⟨a, len, cap, ss, hcs, _, hl, _, hz, _, hcell, _⟩
  · exact ⟨none, 0, [], hcs, StrS.nil _⟩
  · have hss : len ≤ ss.length := by rw [hz]; split <;> omega
    have hlen : (ss.take len).length = len := by simp; omega
    obtain ⟨b, off, spot⟩ := a
    refine ⟨some ⟨b, off, spot⟩, cap, ss.take len, by rw [hlen]; exact hcs, ⟨some ⟨b, off, spot⟩, cap, by rw [hlen], by omega, by simp, fun i s hi => ?_⟩⟩
    have hj : i < len := by
      have := (List.getElem?_eq_some_iff.1 hi).1
      simp at this
      omega
    have hspot : spot = none := by simpa [Addr.add] using World.cell?_spot (hcell 0 (by omega))
    subst hspot
    have hX' : ss.getD i ByteArray.empty = s := by
      rw [List.getElem?_take_of_lt hj] at hi
      simp [List.getD, hi]
    refine ⟨b, off, rfl, ?_⟩
    rw [← hX', addr_plus]
    exact hcell i (by omega)

/-- A list out of its elements. -/
theorem list_of {α : Type} {Q : Nat → α → Prop} : ∀ {n : Nat}, (∀ i, i < n → ∃ x, Q i x) → ∃ l : List α, l.length = n ∧ ∀ i x, l[i]? = some x → Q i x := by
  intro n
  induction n with
  | zero => intro _; exact ⟨[], rfl, fun i x h => by simp at h⟩
  | succ n ih =>
    intro h
    obtain ⟨l, hl, hq⟩ := ih (fun i hi => h i (by omega))
    obtain ⟨x, hx⟩ := h n (by omega)
    refine ⟨l ++ [x], by simp [hl], fun i y hy => ?_⟩
    rcases Nat.lt_or_ge i n with hi | hi
    · rw [List.getElem?_append_left (by omega)] at hy
      exact hq i y hy
    · have hin : i = n := by have := (List.getElem?_eq_some_iff.1 hy).1; simp at this; omega
      subst hin
      rw [List.getElem?_append_right (by omega), hl] at hy
      simp at hy
      rw [← hy]; exact hx

set_option maxRecDepth 100000 in
/-- A list of lists of strings that came in. -/
theorem open_rows {H : Type} {enc : TypeId × Value → H} {W : World} {base : Nat} {v : Value} {d : DataW H} {ps : List MemPlace} (hval : Value.okWide Tryf.prog W .any base 25 v)
    (hd : DataW.Trod enc Tryf.prog W 0 (fun _ => true) true 25 v d ps) : ∃ a c xss, v = .slice a xss.length c ∧ RowsS W v xss := by
  obtain ⟨a0, len, cap, rfl⟩ := okWide_slice Tryf.underlying25 hval
  obtain ⟨fuel, hf⟩ := hd
  rcases DataW.trod_slice Tryf.underlying25 hf with ⟨hcs, _⟩ | ⟨a, len', cap', elems, rest, n, _, hcs, _, _, hl, _, hlen, hel, _, _⟩
  · have hcs' : [Value.slice a0 len cap] = [Value.slice none 0 0] := hcs
    cases hcs'
    exact ⟨none, 0, [], rfl, none, 0, rfl, fun i xs hi => by simp at hi⟩
  · have hcs' : [Value.slice a0 len cap] = [Value.slice (some a) len' cap'] := hcs
    cases hcs'
    have each : ∀ i, i < len → ∃ xs : List ByteArray, ∃ u c, W.cell? (a.add i) = some (.slice u xs.length c) ∧ StrS W (.slice u xs.length c) xs := fun i hi => by
      have h1 := hel i hi
      obtain ⟨y, hy⟩ : ∃ y, elems[i]? = some y := ⟨elems[i]'(by omega), by simp⟩
      rw [hy, Tryf.cells22, Nat.mul_one, Option.bind_eq_some_iff] at h1
      obtain ⟨cs', hc1, hc2⟩ := h1
      obtain ⟨u, c, xs, rfl, hS⟩ := strS_of_trod hc2
      exact ⟨xs, u, c, cell_of_cells?_one hc1, hS⟩
    obtain ⟨xss, hxl, hx⟩ := list_of each
    refine ⟨some a, cap, xss, by rw [hxl], some a, cap, by rw [hxl], fun i xs hi => ?_⟩
    have hil : i < len := by have := (List.getElem?_eq_some_iff.1 hi).1; omega
    obtain ⟨u, c, h1, h2⟩ := hx i xs hi
    obtain ⟨b, off, spot⟩ := a
    obtain ⟨_, _, _, h0, _⟩ := each 0 (by omega)
    have hspot : spot = none := by simpa [Addr.add] using World.cell?_spot h0
    subst hspot
    exact ⟨b, off, u, c, rfl, by rw [addr_plus]; exact h1, h2⟩
end Go.Proofs.Qxb6612546aFmt
