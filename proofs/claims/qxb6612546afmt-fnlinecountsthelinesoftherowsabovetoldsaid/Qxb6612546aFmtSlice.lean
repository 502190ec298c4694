import Derived.Test.Qxb6612546aFmtFill
import Derived.Test.Qxb6612546aFmtShelf
import Derived.Lib.IndexLaws
namespace Go.Proofs.Qxb6612546aFmt
open Go.RowKit

theorem Fr.drewr {S : Nat → Prop} {a w : World} (h : Fr S a w) : Fr S a w.drew := ⟨h.os, h.tape, h.output, h.size, h.block⟩

/-- The bytes at an address. -/
def BytAt (w : World) (a : Option Addr) (l : List UInt8) : Prop := ∀ j c, l[j]? = some c → ∃ b o, a = some ⟨b, o, none⟩ ∧ w.cell? ⟨b, o + j, none⟩ = some (byteV c)

theorem idx_cases {l : List UInt8} {c : UInt8} {q : Int} (h : Lib.indexByte l c = q) : (∃ pre post, l = pre ++ c :: post ∧ c ∉ pre ∧ q = pre.length) ∨ (c ∉ l ∧ q = -1) := by
  have hg := Lib.indexByte_ge l c
  by_cases hq : q = -1
  · refine .inr ⟨fun hc => ?_, hq⟩
    obtain ⟨k, hk⟩ := List.getElem?_of_mem hc
    exact Lib.indexByte_none (h.trans hq) k hk
  · obtain ⟨o, ho⟩ : ∃ o : Nat, q = (o : Int) := ⟨q.toNat, by omega⟩
    obtain ⟨h1, h2⟩ := Lib.indexByte_some (h.trans ho)
    obtain ⟨hlt, hget⟩ := List.getElem?_eq_some_iff.1 h1
    refine .inl ⟨l.take o, l.drop (o + 1), ?_, ?_, ?_⟩
    · rw [← hget, ← List.drop_eq_getElem_cons hlt, List.take_append_drop]
    · intro hc
      obtain ⟨k, hk⟩ := List.getElem?_of_mem hc
      have hkl : k < o := by have := (List.getElem?_eq_some_iff.1 hk).1; simp at this; omega
      rw [List.getElem?_take_of_lt hkl] at hk
      exact h2 k hkl hk
    · rw [List.length_take, ho]; omega

theorem index_any (a : Option Addr) (n c : Nat) (l : List UInt8) (cv : UInt8) (q : Int) (w : World) (hl : l.length = n) (hA : BytAt w a l) (hnil : a = none → c = 0) (hq : Lib.indexByte l cv = q) :
    Calls Tryf.prog 61 #[.slice a n c, .int .u8 cv.toNat] w fun e w' => e = .returned (.int .i64 q) ∧ w' = w := by
  subst hl
  subst hq
  have hcv : ((cv.toNat : Int)).toNat.toUInt8 = cv := by simp
  cases a with
  | none =>
    cases l with
    | nil =>
      obtain rfl := hnil rfl
      exact Tryf.bytes_IndexByte_nil _ w
    | cons x l =>
      obtain ⟨b, o, h, _⟩ := hA 0 x rfl
      cases h
  | some a =>
    have := Tryf.bytes_IndexByte_at a l.length c (l.map fun b => (b.toNat : Int)) cv.toNat w (by simp) (fun i hi => by
      obtain ⟨b, o, h, hc⟩ := hA i l[i] (by simp [hi])
      cases h
      rw [addr_add, hc]
      simp [byteV, hi, List.getD])
    rw [hcv] at this
    have e : Lib.bytesOf (l.map fun b => (b.toNat : Int)) = l := by
      unfold Lib.bytesOf
      rw [List.map_map]
      conv => rhs; rw [← List.map_id l]
      apply List.map_congr_left
      intro b _
      simp
    rwa [e] at this

set_option maxRecDepth 100000 in
theorem buffered_any (N : Nat) (r n : Nat) (w : World) (c2 : w.cell? ⟨N + 1, 2, none⟩ = some (.int .i64 r)) (c3 : w.cell? ⟨N + 1, 3, none⟩ = some (.int .i64 n)) (hr : r ≤ n) (hn : n ≤ 4096) :
    Calls Tryf.prog 75 #[.pointer (some ⟨N + 1, 0, none⟩)] w fun e w' => e = .returned (.int .i64 (n - r : Nat)) ∧ ∃ m, w' = w.drewN m := by
  go_enter Tryf.func75, Tryf.ntmps75
  go_wp2
  go_quiet (fail)
  go_wp2
  go_ret
  exact ⟨by simp; omega, _, rfl⟩

set_option maxRecDepth 100000 in
theorem readErr_any (N : Nat) (e : Value) (w : World) (c4 : w.cell? ⟨N + 1, 4, none⟩ = some e) (f4 : w.frozen? ⟨N + 1, 4, none⟩ = false) :
    Calls Tryf.prog 74 #[.pointer (some ⟨N + 1, 0, none⟩)] w fun en w' => en = .returned e ∧ w' = w.setCell ⟨N + 1, 4, none⟩ .nilIface := by
  go_enter Tryf.func74, Tryf.ntmps74
  go_wp2
  go_ret
  exact ⟨rfl, rfl⟩

end Go.Proofs.Qxb6612546aFmt
