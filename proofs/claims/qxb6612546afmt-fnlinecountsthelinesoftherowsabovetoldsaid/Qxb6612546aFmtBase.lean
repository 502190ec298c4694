import Derived.Test.Qxb6612546aFmtRows
import Derived.WalkKit
import Derived.WalkSpells
import Derived.WalkLawsBesides
namespace Go.Proofs.Qxb6612546aFmt
open Go.RowKit

theorem hide {p : Prop} (h : p) : Hid p := h
theorem unhide {p : Prop} (h : Hid p) : p := h

/-- v is a slice of strings; in the world w its elements are xs. -/
def StrS (w : World) (v : Value) (xs : List ByteArray) : Prop :=
  ∃ a c, v = .slice a xs.length c ∧ xs.length ≤ c ∧ (a = none → xs = [] ∧ c = 0) ∧ ∀ i s, xs[i]? = some s → ∃ b o, a = some ⟨b, o, none⟩ ∧ w.cell? ⟨b, o + i, none⟩ = some (.string s)

theorem StrS.cases {w : World} {v : Value} {xs : List ByteArray} (h : StrS w v xs) :
    (xs = [] ∧ v = .slice none 0 0) ∨ (xs = [] ∧ ∃ a c, v = .slice (some a) 0 c) ∨
    (∃ b o c, v = .slice (some ⟨b, o, none⟩) xs.length c ∧ xs ≠ [] ∧ xs.length ≤ c ∧ ∀ i s, xs[i]? = some s → w.cell? ⟨b, o + i, none⟩ = some (.string s)) := by
  obtain ⟨a, c, rfl, hc, hn, hcell⟩ := h
  cases xs with
  | nil =>
    cases a with
    | none => obtain ⟨_, rfl⟩ := hn rfl; exact .inl ⟨rfl, rfl⟩
    | some a => exact .inr (.inl ⟨rfl, a, c, rfl⟩)
  | cons x xs =>
    obtain ⟨b, o, rfl, h0⟩ := hcell 0 x rfl
    refine .inr (.inr ⟨b, o, c, rfl, by simp, hc, fun i s hs => ?_⟩)
    obtain ⟨b', o', he, h1⟩ := hcell i s hs
    simp at he
    obtain ⟨rfl, rfl⟩ := he
    exact h1

theorem StrS.nil (w : World) : StrS w (.slice none 0 0) [] := ⟨none, 0, rfl, by simp, by simp, by simp⟩

theorem StrS.mk {w : World} {b o c : Nat} {xs : List ByteArray} (hc : xs.length ≤ c) (h : ∀ i s, xs[i]? = some s → w.cell? ⟨b, o + i, none⟩ = some (.string s)) : StrS w (.slice (some ⟨b, o, none⟩) xs.length c) xs :=
  ⟨_, c, rfl, hc, by simp, fun i s hs => ⟨b, o, rfl, h i s hs⟩⟩

theorem StrS.same {w w' : World} {v : Value} {xs : List ByteArray} (h : StrS w v xs) (hk : ∀ a s, w.cell? a = some (.string s) → v.ownBlock = some a.block → w'.cell? a = some (.string s)) : StrS w' v xs := by
  obtain ⟨a, c, rfl, hc, hn, hcell⟩ := h
  refine ⟨a, c, rfl, hc, hn, fun i s hs => ?_⟩
  obtain ⟨b, o, rfl, h1⟩ := hcell i s hs
  exact ⟨b, o, rfl, hk _ _ h1 rfl⟩

theorem StrS.below {w w' : World} {v : Value} {xs : List ByteArray} (h : StrS w v xs) (hk : Below w.heap.size w w') : StrS w' v xs :=
  h.same fun a s ha _ => by rw [hk.cell (World.block_lt_of_cell? w a ha)]; exact ha

/-- The bytes of all strings. -/
def sizes (xs : List ByteArray) : Nat := (xs.map ByteArray.size).sum

theorem sizes_take (xs : List ByteArray) (k : Nat) (s : ByteArray) (h : xs[k]? = some s) : sizes (xs.take (k + 1)) = sizes (xs.take k) + s.size := by
  obtain ⟨hk, rfl⟩ := List.getElem?_eq_some_iff.1 h
  unfold sizes
  rw [List.take_succ_eq_append_getElem hk, List.map_append, List.sum_append]
  rfl

theorem sizes_nil : sizes [] = 0 := rfl

/-- What the bound on all lengths says. -/
def BytesPost (kw ar : ByteArray) (x3 x4 x5 x6 x7 : List ByteArray) (w : World) (e : Ending) (w' : World) : Prop :=
  ∃ b : Bool, e = .returned (.bool b) ∧ (b = true → kw.size + ar.size + (x3.length + sizes x3) + (x4.length + sizes x4) + (x5.length + sizes x5) + (x6.length + sizes x6) + (x7.length + sizes x7) ≤ 1048576) ∧ w' = w

theorem BytesPost.no {kw ar : ByteArray} {x3 x4 x5 x6 x7 : List ByteArray} {w : World} : BytesPost kw ar x3 x4 x5 x6 x7 w (.returned (.bool false)) w := ⟨false, rfl, (by intro h; cases h), rfl⟩

/-- A made row of n cells, filled up to k. -/
def fillL (z : Value) (vs : List Value) (k n : Nat) : List Value := vs.take k ++ List.replicate (n - k) z

theorem fillL_zero (z : Value) (vs : List Value) (n : Nat) : fillL z vs 0 n = List.replicate n z := by simp [fillL]

theorem fillL_full (z : Value) (vs : List Value) (n : Nat) (h : vs.length = n) : fillL z vs n n = vs := by simp [fillL, ← h]

theorem fillL_at (z : Value) (vs : List Value) (k n : Nat) (h : vs.length = n) (hk : k < n) : (fillL z vs k n)[k]? = some z := by
  have h1 : (vs.take k).length = k := by simp; omega
  unfold fillL
  rw [List.getElem?_append_right (by omega), h1, Nat.sub_self, List.getElem?_replicate, if_pos (by omega)]

theorem fillL_set (z : Value) (vs : List Value) (k n : Nat) (h : vs.length = n) (hk : k < n) (v : Value) (hv : vs[k]? = some v) : (fillL z vs k n).set k v = fillL z vs (k + 1) n := by
  have h1 : (vs.take k).length = k := by simp; omega
  obtain ⟨hk', rfl⟩ := List.getElem?_eq_some_iff.1 hv
  unfold fillL
  rw [List.set_append_right _ _ (by omega), h1, Nat.sub_self, show n - k = (n - (k + 1)) + 1 by omega, List.replicate_succ, List.set_cons_zero, List.take_succ_eq_append_getElem hk', List.append_assoc]
  rfl

theorem fillL_length (z : Value) (vs : List Value) (k n : Nat) (h : vs.length = n) (hk : k ≤ n) : (fillL z vs k n).length = n := by
  simp [fillL]; omega

/-- Is the slice nil? -/
def isNilS : Value → Bool
  | .slice none _ _ => true
  | _ => false

theorem own_other {w : World} {base e size g g' n cap j : Nat} {xs : List Value} (h : w.ownsRow base e size (.slice (some ⟨g, 0, none⟩) n cap) n xs) (hne : g ≠ g') (u : Value) :
    (w.setCell ⟨g', j, none⟩ u).ownsRow base e size (.slice (some ⟨g, 0, none⟩) n cap) n xs := by
  refine h.kept (row := some g') ⟨rfl, rfl, rfl, by simp [World.setCell], fun k _ hk => Below.heap_setCell _ _ _ _ (fun e => hk (by rw [e]))⟩ ?_
  right
  simp [Value.ownBlock, hne]

/-- A row of strings that the call owns, read as a slice. -/
theorem StrS.own {w : World} {base g n cap : Nat} {xs : List ByteArray} (h : w.ownsRow base 9 1 (.slice (some ⟨g, 0, none⟩) n cap) n (xs.map Value.string)) : StrS w (.slice (some ⟨g, 0, none⟩) n cap) xs := by
  have hl : xs.length = n := by have := h.1; simpa using this
  have hc : n ≤ cap := by
    rcases h.2 with ⟨h', _⟩ | ⟨g', cap', cur, h', _, _, hnc, _⟩
    · simp at h'
    · simp only [Value.slice.injEq] at h'; omega
  have := StrS.mk (w := w) (b := g) (o := 0) (c := cap) (xs := xs) (by omega) (fun i s hs => by
    have hi : i < n := by have := (List.getElem?_eq_some_iff.1 hs).1; omega
    rw [Nat.zero_add, h.cellAt i (by omega)]; simp [hs])
  rwa [hl] at this

/-- The first n strings of ys, and empty ones behind its end. -/
def padL (ys : List ByteArray) (n : Nat) : List ByteArray := (List.range n).map fun i => ys[i]?.getD ⟨#[]⟩

theorem padL_length (ys : List ByteArray) (n : Nat) : (padL ys n).length = n := by simp [padL]

theorem padL_at (ys : List ByteArray) (n k : Nat) (h : k < n) : (padL ys n)[k]? = some (ys[k]?.getD ⟨#[]⟩) := by simp [padL, h]

end Go.Proofs.Qxb6612546aFmt
