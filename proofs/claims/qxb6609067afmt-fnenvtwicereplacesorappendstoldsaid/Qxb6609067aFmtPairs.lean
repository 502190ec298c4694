import Derived.Test.Qxb6609067aFmtSame
namespace Go.Proofs.Qxb6609067aFmt
open Go.RowKit

/-- v is a slice of pairs; in the world w its elements are ps. -/
def PairS (w : World) (v : Value) (ps : List (ByteArray × ByteArray)) : Prop :=
  ∃ a c, v = .slice a ps.length c ∧ ps.length ≤ c ∧ (a = none → ps = [] ∧ c = 0) ∧ ∀ i s t, ps[i]? = some (s, t) → ∃ b o, a = some ⟨b, o, none⟩ ∧ w.cell? ⟨b, o + i * 2, none⟩ = some (.string s) ∧ w.cell? ⟨b, o + i * 2 + 1, none⟩ = some (.string t)

theorem PairS.some_cases {w : World} {a : Option Addr} {n c : Nat} {ps : List (ByteArray × ByteArray)} (h : PairS w (.slice a n c) ps) :
    ps.length = n ∧ n ≤ c ∧ (a = none → ps = [] ∧ c = 0) ∧ ∀ i s t, ps[i]? = some (s, t) → ∃ b o, a = some ⟨b, o, none⟩ ∧ w.cell? ⟨b, o + i * 2, none⟩ = some (.string s) ∧ w.cell? ⟨b, o + i * 2 + 1, none⟩ = some (.string t) := by
  obtain ⟨a', c', he, hc, hn, hcell⟩ := h
  simp at he
  obtain ⟨rfl, rfl, rfl⟩ := he
  exact ⟨rfl, hc, hn, hcell⟩

set_option maxHeartbeats 400000 in
theorem pairsAre_any (a1 a2 a3 : Option Addr) (n c1 c2 c3 : Nat) (ps : List (ByteArray × ByteArray)) (w : World) (h1 : PairS w (.slice a1 n c1) ps) (h2 : StrS w (.slice a2 n c2) (ps.map Prod.fst)) (h3 : StrS w (.slice a3 n c3) (ps.map Prod.snd)) (hn : n ≤ 104857600) :
    Calls Tryf.prog 20 #[.slice a1 n c1, .slice a2 n c2, .slice a3 n c3, .bool a1.isNone] w (TruePost w) := by
  obtain ⟨q1, _, _, hc1⟩ := h1.some_cases
  obtain ⟨_, _, _, hc2⟩ := h2.some_cases
  obtain ⟨_, _, _, hc3⟩ := h3.some_cases
  have l1 := hide q1
  have hnl1 := fun w => Lib.run_eql_slice_nil (P := Tryf.prog) w 36 48 a1 n c1 0 0 Tryf.underlying36
  clear h1 h2 h3 q1
  go_enter Tryf.func20, Tryf.ntmps20
  go_wp2
  go_loopw [9] (fun i wr => ∃ k m : Nat, k ≤ n ∧ i = .int .i64 k ∧ wr = w.drewN m) (fun i _ => n - (intOf i).toNat)
  case atStart => exact ⟨0, 0, Nat.zero_le _, rfl, rfl⟩
  case round =>
    obtain ⟨k, m, hk, rfl, rfl⟩ := hrel
    by_cases hlt : k < n
    · obtain ⟨s, t, hs⟩ : ∃ s t, ps[k]? = some (s, t) := ⟨(ps[k]'(by have := unhide l1; omega)).1, (ps[k]'(by have := unhide l1; omega)).2, List.getElem?_eq_getElem (by have := unhide l1; omega)⟩
      obtain ⟨b1, o1, he1, hcl1, hcl1'⟩ := hc1 k s t hs
      obtain ⟨b2, o2, he2, hcl2⟩ := hc2 k s (by simp [hs])
      obtain ⟨b3, o3, he3, hcl3⟩ := hc3 k t (by simp [hs])
      cases he1
      cases he2
      cases he3
      clear hs hc1 hc2 hc3
      go_wp2
      go_quiet (fail)
      go_wp2
      go_roundw
      case rel => exact ⟨k + 1, _, by omega, by go_num, rfl⟩
      case measure => simp [intOf]; omega
    · go_wp2
      go_ret
      exact ⟨rfl, _, rfl⟩
end Go.Proofs.Qxb6609067aFmt
