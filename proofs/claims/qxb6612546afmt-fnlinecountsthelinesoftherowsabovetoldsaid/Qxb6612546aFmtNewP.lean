import Derived.Test.Qxb6612546aFmtErr
import Derived.Test.Qxb6612546aFmtMake
import Derived.Test.Qxb6612546aFmtShelf
import Derived.Test.Qxb6612546aFmtHdr
namespace Go.Proofs.Qxb6612546aFmt
open Go.RowKit

namespace Cs
/-- No field is longer than the text. -/
theorem mach_size (K : Nat) : ∀ (l : List UInt8) (m : Nat) (acc : List UInt8) (fs : List (List UInt8)) (st ln : Nat), acc.length + l.length ≤ K → (∀ f ∈ fs, f.length ≤ K) → ∀ r ∈ (mach m acc fs st ln l).1, ∀ f ∈ r.1, f.length ≤ K := by
  intro l
  induction l with
  | nil =>
    intro m acc fs st ln hK hf r hr
    have key : ∀ f ∈ fs ++ [acc], f.length ≤ K := by
      intro f h
      simp only [List.mem_append, List.mem_singleton] at h
      rcases h with h | rfl
      · exact hf f h
      · simp at hK; omega
    rw [mach] at hr
    split at hr
    · simp at hr
    · split at hr
      · simp at hr
      · simp only [List.mem_singleton] at hr; subst hr; exact key
  | cons c l ih =>
    intro m acc fs st ln hK hf r hr
    simp only [List.length_cons] at hK
    have key : ∀ f ∈ fs ++ [acc], f.length ≤ K := by
      intro f h
      simp only [List.mem_append, List.mem_singleton] at h
      rcases h with h | rfl
      · exact hf f h
      · omega
    have hnil : ∀ f ∈ ([] : List (List UInt8)), f.length ≤ K := by simp
    rw [mach] at hr
    split at hr
    · split at hr
      · exact ih _ _ _ _ _ (by simp; omega) hnil r hr
      · split at hr
        · exact ih _ _ _ _ _ (by simp; omega) hnil r hr
        · split at hr
          · exact ih _ _ _ _ _ (by simp; omega) (by simp) r hr
          · exact ih _ _ _ _ _ (by simp; omega) hnil r hr
    · split at hr
      · split at hr
        · exact ih _ _ _ _ _ (by omega) hf r hr
        · exact ih _ _ _ _ _ (by simp; omega) hf r hr
      · split at hr
        · split at hr
          · exact ih _ _ _ _ _ (by simp; omega) hf r hr
          · split at hr
            · exact ih _ _ _ _ _ (by simp; omega) hf r hr
            · simp at hr
        · split at hr
          · exact ih _ _ _ _ _ (by simp; omega) key r hr
          · split at hr
            · simp only [List.mem_cons] at hr
              rcases hr with rfl | hr
              · exact key
              · exact ih _ _ _ _ _ (by simp; omega) hnil r hr
            · split at hr
              · simp at hr
              · exact ih _ _ _ _ _ (by simp; omega) hf r hr
end Cs

/-- What NewReader leaves. -/
def NewPost (N : Nat) (s : ByteArray) (req opt : List ByteArray) (ea : Addr) (w : World) (en : Ending) (w' : World) : Prop :=
  Below N w w' ∧
    (((∀ x st rest, (Cs.mach 4 [] [] 0 1 (Cs.norm s.data.toList)).1 = (x, st) :: rest → ¬ Acc (hdrOf (strsOf x)) req opt) ∧ ∃ t p, en = .returned (.tuple #[.pointer none, .iface t p])) ∨
     (∃ (x : List (List UInt8)) (st : Nat) (P' : List UInt8) (nl' T : Nat),
       Cs.mach 4 [] [] 0 1 (Cs.norm s.data.toList) = ((x, st) :: (Cs.mach 4 [] [] 0 (nl' + 1) (Cs.norm P')).1, (Cs.mach 4 [] [] 0 (nl' + 1) (Cs.norm P')).2) ∧ Acc (hdrOf (strsOf x)) req opt ∧ nl' + P'.length ≤ s.size ∧
       0 < x.length ∧ x.length ≤ 1048576000 ∧ en = .returned (.tuple #[.pointer (some ⟨T, 0, none⟩), .nilIface]) ∧ TR w' N T s P' ea x.length nl' st (.slice none 0 0)))

theorem r0_start {N : Nat} {s : ByteArray} {ea : Addr} {w : World} (hb : Buf w N s 0 0 0 .nilIface (List.replicate 4096 0) (-1) (-1) (-1)) (hc : Csv w N 0 (0 : Nat) 0 (.slice none 0 0) (.slice none 0 0) (.slice none 0 0) (.slice none 0 0) (.slice none 0 0)) :
    R0 w N s s.data.toList ea 0 0 (.slice none 0 0) (.slice none 0 0) (.slice none 0 0) (.slice none 0 0) (.slice none 0 0) (.slice none 0 0) := by
  have ho : ∀ e sz, w.ownsRow (N + 4) e sz (.slice none 0 0) 0 [] := fun e sz => ⟨by simp, .inl ⟨rfl, rfl⟩⟩
  refine ⟨⟨0, 0, 0, .nilIface, List.replicate 4096 0, -1, -1, -1, 0, 0, [], hb, .inl rfl, by simp [pend], hc, ho _ _⟩, ⟨0, [], ho _ _⟩, ⟨0, [], ho _ _⟩, ⟨0, [], ho _ _⟩, ⟨0, [], ho _ _⟩, ?_, ?_⟩
  · intro i j a b ha hb' hij g hg
    have : a = .slice none 0 0 := by
      have := List.mem_of_getElem? ha
      simpa using this
    subst this
    simp [Value.ownBlock] at hg
  · intro v hv g hg
    have : v = .slice none 0 0 := by simpa using hv
    subst this
    simp [Value.ownBlock] at hg

/-- What the first Read leaves. -/
def HdPost (N : Nat) (s : ByteArray) (ea : Addr) (w : World) (aD : Option Addr) (kD cD : Nat) (ev : Value) (w' : World) : Prop :=
  Below N w w' ∧ w.heap.size ≤ w'.heap.size ∧
    (((Cs.mach 4 [] [] 0 1 (Cs.norm s.data.toList)).1 = [] ∧ ev = .iface 84 (.pointer (some ea))) ∨
     ((Cs.mach 4 [] [] 0 1 (Cs.norm s.data.toList)).1 = [] ∧ ∃ p, ev = .iface 98 (.pointer (some p))) ∨
     (∃ (x : List (List UInt8)) (st : Nat) (P' : List UInt8) (nl' : Nat) (raw' rec' fi' fp' : Value) (cells : List Value),
       Cs.mach 4 [] [] 0 1 (Cs.norm s.data.toList) = ((x, st) :: (Cs.mach 4 [] [] 0 (nl' + 1) (Cs.norm P')).1, (Cs.mach 4 [] [] 0 (nl' + 1) (Cs.norm P')).2) ∧ 0 < x.length ∧
       R0 w' N s P' ea x.length nl' raw' rec' fi' fp' (.slice aD kD cD) (.slice aD kD cD) ∧ StrS w' (.slice aD kD cD) (strsOf x) ∧ w'.ownsRow (N + 4) 82 2 fp' x.length cells ∧ cells[0]? = some (intV st) ∧ nl' + P'.length ≤ s.size ∧ ev = .nilIface))

theorem hd_of_read {N : Nat} {s : ByteArray} {ea : Addr} {w : World} {en : Ending} {w' : World} (hN : N + 4 ≤ w.heap.size) (h : ReadPost1 N s s.data.toList ea 0 0 (.slice none 0 0) (.slice none 0 0) (.slice none 0 0) (.slice none 0 0) (.slice none 0 0) w en w') :
    ∃ aD kD cD ev, en = .returned (.tuple #[.slice aD kD cD, ev]) ∧ HdPost N s ea w aD kD cD ev w' := by
  obtain ⟨aD, kD, cD, dv, ev, rfl, rfl, hfr, hcs⟩ := h
  refine ⟨aD, kD, cD, ev, rfl, hfr.to_below (fun k hk hs => ?_) (by omega), hfr.size, ?_⟩
  · rcases hs with hs | ⟨v, hv, hg⟩
    · omega
    · have : v = .slice none 0 0 := by simpa using hv
      subst this
      simp [Value.ownBlock] at hg
  · rcases hcs with ⟨h1, h2⟩ | ⟨h1, h2⟩ | ⟨x, st, P', nl', fpr', raw', rec', fi', fp', cells, h1, hx, h3, h4, h5, h6, h7, h8, h9⟩
    · refine .inl ⟨?_, h2⟩
      rw [show (1 : Nat) = 0 + 1 from rfl, h1]
    · refine .inr (.inl ⟨?_, h2⟩)
      rw [show (1 : Nat) = 0 + 1 from rfl, h1]
    · rcases h9 with ⟨_, rfl, h9⟩ | ⟨h, _⟩
      · exact .inr (.inr ⟨x, st, P', nl', raw', rec', fi', fp', cells, h1, hx, h3, StrS.own' h5, h6, h7, by simpa using h8, h9⟩)
      · exact absurd rfl h
end Go.Proofs.Qxb6612546aFmt
