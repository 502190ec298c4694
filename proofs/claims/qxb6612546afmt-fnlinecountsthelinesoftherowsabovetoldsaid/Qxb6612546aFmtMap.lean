import Derived.Test.Qxb6612546aFmtNext2
import Derived.Maps.OwnSet
import Derived.Maps.OwnOps
namespace Go.Proofs.Qxb6612546aFmt
open Go.RowKit

theorem Tryf.und56 : Tryf.prog.underlying 56 = some (.map 9 4) := by kernel_rfl
theorem Tryf.und57 : Tryf.prog.underlying 57 = some (.map 9 3) := by kernel_rfl
theorem Tryf.und4 : Tryf.prog.underlying 4 = some .bool := by kernel_rfl
theorem Tryf.und3 : Tryf.prog.underlying 3 = some (.int .i64) := by kernel_rfl
theorem Tryf.und9 : Tryf.prog.underlying 9 = some .string := by kernel_rfl
theorem Tryf.law9 : Maps.Keyed Tryf.prog 9 := Maps.string_keyed Tryf.und9
theorem Tryf.zero4 (w : World) : (zeroValue 4).run Tryf.prog w = .ok (.bool false) w := by kernel_rfl
theorem Tryf.zero3 (w : World) : (zeroValue 3).run Tryf.prog w = .ok (.int .i64 0) w := by kernel_rfl

def keyL (s : ByteArray) : Lit := .string s.data.toList

theorem keyL_inj {s t : ByteArray} (h : keyL s = keyL t) : s = t := by
  simp only [keyL, Lit.string.injEq] at h
  exact ByteArray.ext (Array.ext' h)

theorem key_is (s : ByteArray) : WideAt.IsKeyLit (keyL s) := by simp [keyL, WideAt.IsKeyLit]

/-- Does s stand in xs? -/
def isIn (s : ByteArray) (xs : List ByteArray) : Bool := xs.any fun t => decide (t = s)

theorem isIn_iff {s : ByteArray} {xs : List ByteArray} : isIn s xs = true ↔ s ∈ xs := by simp [isIn]

theorem isIn_same (s : ByteArray) (xs : List ByteArray) : isIn s (s :: xs) = true := by simp [isIn]
theorem isIn_other {s t : ByteArray} (xs : List ByteArray) (h : ¬ t = s) : isIn t (s :: xs) = isIn t xs := by
  simp [isIn, Ne.symm (a := t) h]

/-- A map[string]bool that is a set. -/
def SetB (w : World) (b n : Nat) (xs : List ByteArray) : Prop :=
  ∃ D : DataW Unit, w.ownsMap Tryf.prog 9 (plainElem Tryf.prog 4) b n D ∧ ∀ s, D.atKey (keyL s) (.lit (.bool false)) = .lit (.bool (isIn s xs))

/-- A map[string]int with these keys. -/
def SetI (w : World) (b n : Nat) (xs : List ByteArray) : Prop :=
  ∃ D : DataW Unit, w.ownsMap Tryf.prog 9 (plainElem Tryf.prog 3) b n D ∧ ∀ s, Maps.has D (keyL s) = isIn s xs

theorem SetB.made (w : World) : SetB (w.alloc (.map #[] 0)) w.heap.size 0 [] := ⟨_, World.ownsMap_made _ _ _ _, fun s => by simp [DataW.atKey, isIn]⟩
theorem SetI.made (w : World) : SetI (w.alloc (.map #[] 0)) w.heap.size 0 [] := ⟨_, World.ownsMap_made _ _ _ _, fun s => by simp [Maps.has_eq, isIn]⟩

theorem SetB.kept {w w' : World} {b n : Nat} {xs : List ByteArray} {r : Option Nat} (h : SetB w b n xs) (hg : w.grownBy w' r) (hne : some b ≠ r) : SetB w' b n xs := by
  obtain ⟨D, h1, h2⟩ := h; exact ⟨D, h1.kept hg hne, h2⟩
theorem SetI.kept {w w' : World} {b n : Nat} {xs : List ByteArray} {r : Option Nat} (h : SetI w b n xs) (hg : w.grownBy w' r) (hne : some b ≠ r) : SetI w' b n xs := by
  obtain ⟨D, h1, h2⟩ := h; exact ⟨D, h1.kept hg hne, h2⟩

theorem SetB.update {w : World} {b n : Nat} {xs : List ByteArray} (h : SetB w b n xs) (s : ByteArray) (hs : s.size ≤ maxLen) (hn : n < maxLen) :
    ∃ w', (Instr.mapUpdate 56 (.map (some b)) (.string s) (.bool true)).run Tryf.prog w = .ok () w' ∧ SetB w' b (n + 1) (s :: xs) ∧ w.grownBy w' (some b) := by
  obtain ⟨D, h1, h2⟩ := h
  obtain ⟨w', hr, ho, hg⟩ := h1.update Tryf.law9 Tryf.und56 hn (WideMaps.keyOf_string_mk Tryf.und9 hs) (plainElem_bool Tryf.und4 true)
  refine ⟨w', hr, ⟨_, ho, fun t => ?_⟩, hg⟩
  by_cases he : t = s
  · subst he
    rw [show (Lit.string t.data.toList) = keyL t from rfl, Maps.atKey_put_same h1.isMap (key_is t), isIn_same]
  · rw [show (Lit.string s.data.toList) = keyL s from rfl, Maps.atKey_put_other (fun e => he (keyL_inj e)), h2, isIn_other xs he]

theorem SetI.update {w : World} {b n : Nat} {xs : List ByteArray} (h : SetI w b n xs) (s : ByteArray) (k : Nat) (hk : k ≤ 1048576000) (hs : s.size ≤ maxLen) (hn : n < maxLen) :
    ∃ w', (Instr.mapUpdate 57 (.map (some b)) (.string s) (.int .i64 k)).run Tryf.prog w = .ok () w' ∧ SetI w' b (n + 1) (s :: xs) ∧ w.grownBy w' (some b) := by
  obtain ⟨D, h1, h2⟩ := h
  obtain ⟨w', hr, ho, hg⟩ := h1.update Tryf.law9 Tryf.und57 hn (WideMaps.keyOf_string_mk Tryf.und9 hs) (plainElem_int Tryf.und3 (a := k) (WalkArith.wf_i64 (by omega)))
  refine ⟨w', hr, ⟨_, ho, fun t => ?_⟩, hg⟩
  by_cases he : t = s
  · subst he
    rw [show (Lit.string t.data.toList) = keyL t from rfl, Maps.has_put_same h1.isMap (key_is t), isIn_same]
  · rw [show (Lit.string s.data.toList) = keyL s from rfl, Maps.has_put_other (fun e => he (keyL_inj e)), h2, isIn_other xs he]

theorem SetB.look {w : World} {b n : Nat} {xs : List ByteArray} (h : SetB w b n xs) (s : ByteArray) (hs : s.size ≤ maxLen) :
    (Instr.lookup 56 (.map (some b)) (.string s) false).run Tryf.prog w = .ok (.bool (isIn s xs)) w := by
  obtain ⟨D, h1, h2⟩ := h
  obtain ⟨v, ps, hr, hv⟩ := h1.lookup Tryf.law9 Tryf.und56 (Tryf.zero4 w) (plainElem_bool Tryf.und4 false) (WideMaps.keyOf_string_mk Tryf.und9 hs)
  rw [hr]
  rw [show (Lit.string s.data.toList) = keyL s from rfl, h2] at hv
  unfold plainElem at hv
  rw [Tryf.und4] at hv
  cases v <;> simp at hv
  rw [hv.1]

theorem SetI.look {w : World} {b n : Nat} {xs : List ByteArray} (h : SetI w b n xs) (s : ByteArray) (hs : s.size ≤ maxLen) :
    ∃ c, (Instr.lookup 57 (.map (some b)) (.string s) true).run Tryf.prog w = .ok (.tuple #[.int .i64 c, .bool (isIn s xs)]) w := by
  obtain ⟨D, h1, h2⟩ := h
  obtain ⟨v, ps, hr, hv⟩ := h1.look_ok Tryf.law9 Tryf.und57 (Tryf.zero3 w) (plainElem_int Tryf.und3 (by decide)) (WideMaps.keyOf_string_mk Tryf.und9 hs)
  obtain ⟨c, rfl, _⟩ := plainElem_int_inv Tryf.und3 hv
  refine ⟨c, ?_⟩
  rw [hr, show (Lit.string s.data.toList) = keyL s from rfl, h2]

theorem make56 (k : Nat) (w : World) : (Instr.makeMap 56 (some (.int .i64 k))).run Tryf.prog w = .ok (.map (some w.heap.size)) (w.alloc (.map #[] 0)) := by
  simp [Instr.makeMap, run_underlying Tryf.und56, asInt, asIntOf, newObj]
  rfl
theorem make57 (k : Nat) (w : World) : (Instr.makeMap 57 (some (.int .i64 k))).run Tryf.prog w = .ok (.map (some w.heap.size)) (w.alloc (.map #[] 0)) := by
  simp [Instr.makeMap, run_underlying Tryf.und57, asInt, asIntOf, newObj]
  rfl
end Go.Proofs.Qxb6612546aFmt
