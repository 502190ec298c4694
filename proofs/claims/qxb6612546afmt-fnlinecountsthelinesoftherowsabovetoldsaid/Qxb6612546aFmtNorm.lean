import Derived.Test.Qxb6612546aFmtPlain
import Derived.Test.Qxb6612546aFmtAppend
import Derived.Test.Qxb6612546aFmtClone
import Derived.Maps.AppendAt
namespace Go.Proofs.Qxb6612546aFmt
open Go.RowKit

theorem Tryf.info5 : (Tryf.prog.info? 5).map (fun i => (i.zero, i.size, i.bytes)) = some (some (.int .u8 0), 1, 1) := by kernel_rfl

theorem drop_byte (s : ByteArray) (k : Nat) (h : k < s.size) : s.data.toList.drop k = s[k] :: s.data.toList.drop (k + 1) := by
  have hk : k < s.data.toList.length := by simpa using h
  rw [List.drop_eq_getElem_cons hk]; rfl

theorem drop_end (s : ByteArray) (k : Nat) (h : s.size ≤ k) : s.data.toList.drop k = [] := List.drop_eq_nil_of_le (by simpa using h)

def byteV (c : UInt8) : Value := .int .u8 c.toNat

/-- A row of bytes of the call's own. -/
def OwnB (base : Nat) (w : World) (v : Value) (l : List UInt8) : Prop := w.ownsRow base 5 1 v l.length (l.map byteV)

def OwnRel (w : World) (v : Value) (l : List UInt8) (wr : World) : Prop := OwnB w.heap.size wr v l ∧ Below w.heap.size w wr

theorem OwnRel.step {w wr w1 : World} {v v' : Value} {l : List UInt8} (c : UInt8) (o : Obj) (h : OwnRel w v l wr)
    (h1 : w1.ownsRow w.heap.size 5 1 v' (l.length + 1) (l.map byteV ++ [byteV c])) (h2 : (wr.alloc o).grownBy w1 v.ownBlock) : OwnRel w v' (l ++ [c]) w1 := by
  refine ⟨by unfold OwnB; simpa using h1, ?_⟩
  refine (h.2.alloc h.2.size o).grown h2 (by simp; have := h.2.size; omega) ?_
  intro k hk
  rcases h.1.2 with ⟨rfl, _⟩ | ⟨g, cap, cur, rfl, hb, _⟩
  · simp [Value.ownBlock] at hk
  · simp [Value.ownBlock] at hk; omega

/-- What zzNormalize leaves. -/
def NormPost (s : ByteArray) (w : World) (e : Ending) (w' : World) : Prop := ∃ v, e = .returned v ∧ OwnRel w v (Cs.norm s.data.toList) w'

theorem norm_step (s : ByteArray) (n k : Nat) (hn : n = s.size ∧ (s.size = 0 ∨ ∀ h : s.size - 1 < s.size, s[s.size - 1] ≠ 13) ∨ (0 < s.size ∧ n = s.size - 1 ∧ ∀ h : s.size - 1 < s.size, s[s.size - 1] = 13)) (hk : k < n) (hks : k < s.size)
    (hc : s[k] ≠ 13 ∨ n ≤ k + 1 ∨ ∀ h : k + 1 < s.size, s[k + 1] ≠ 10) : Cs.norm (s.data.toList.drop k) = s[k] :: Cs.norm (s.data.toList.drop (k + 1)) := by
  rw [drop_byte s k hks]
  by_cases h13 : s[k] = 13
  · by_cases hlt : k + 1 < s.size
    · rw [drop_byte s (k + 1) hlt, Cs.norm, if_neg]
      rintro ⟨_, h10⟩
      rcases hc with h | h | h
      · exact h h13
      · rcases hn with ⟨h1, _⟩ | ⟨_, h1, h2⟩
        · omega
        · have e : k + 1 = s.size - 1 := by omega
          have := h2 (by omega)
          simp only [← e] at this
          rw [this] at h10
          exact absurd h10 (by decide)
      · exact h hlt h10
    · rcases hn with ⟨h1, h2⟩ | ⟨_, h1, _⟩
      · have e : k = s.size - 1 := by omega
        rcases h2 with h2 | h2
        · omega
        · have := h2 (by omega)
          simp only [← e] at this
          exact absurd h13 this
      · omega
  · exact Cs.norm_one _ _ h13

theorem norm_skip (s : ByteArray) (k : Nat) (h : k + 1 < s.size) (h13 : s[k] = 13) (h10 : s[k + 1] = 10) : Cs.norm (s.data.toList.drop k) = Cs.norm (s.data.toList.drop (k + 1)) := by
  rw [drop_byte s k (by omega), drop_byte s (k + 1) h, Cs.norm, if_pos ⟨h13, h10⟩]
end Go.Proofs.Qxb6612546aFmt
