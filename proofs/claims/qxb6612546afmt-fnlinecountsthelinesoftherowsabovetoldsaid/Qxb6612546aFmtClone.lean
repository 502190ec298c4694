import Derived.Test.Qxb6612546aFmtBase
namespace Go.Proofs.Qxb6612546aFmt
open Go.RowKit

theorem Tryf.info9 : (Tryf.prog.info? 9).map (fun i => (i.zero, i.size, i.bytes)) = some (some (.string ⟨#[]⟩), 1, 16) := by kernel_rfl

theorem StrS.some_cases {w : World} {a : Option Addr} {n c : Nat} {xs : List ByteArray} (h : StrS w (.slice a n c) xs) :
    xs.length = n ∧ n ≤ c ∧ (a = none → xs = [] ∧ c = 0) ∧ ∀ i s, xs[i]? = some s → ∃ b o, a = some ⟨b, o, none⟩ ∧ w.cell? ⟨b, o + i, none⟩ = some (.string s) := by
  obtain ⟨a', c', he, hc, hn, hcell⟩ := h
  simp at he
  obtain ⟨rfl, rfl, rfl⟩ := he
  exact ⟨rfl, hc, hn, hcell⟩

end Go.Proofs.Qxb6612546aFmt
