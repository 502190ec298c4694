import Derived.Test.Qxb6609067aFmtOld
import Derived.Deep.QuietTactic
import Derived.BigQuiet
namespace Go.Proofs.Qxb6609067aFmt
open Go.RowKit

/-- It returns true; some draws were made, nothing else has turned. -/
def TruePost (w : World) (e : Ending) (w' : World) : Prop := e = .returned (.bool true) ∧ ∃ n, w' = w.drewN n

set_option maxHeartbeats 400000 in
theorem sameStrings_any (a1 a2 : Option Addr) (n c1 c2 : Nat) (xs : List ByteArray) (w : World) (h1 : StrS w (.slice a1 n c1) xs) (h2 : StrS w (.slice a2 n c2) xs) (hn : n ≤ 1048576) (hnil : a1.isNone = a2.isNone) :
    Calls Tryf.prog 15 #[.slice a1 n c1, .slice a2 n c2] w (TruePost w) := by
  obtain ⟨q1, _, _, hc1⟩ := h1.some_cases
  obtain ⟨_, _, _, hc2⟩ := h2.some_cases
  have l1 := hide q1
  have hnl1 := fun w => Lib.run_eql_slice_nil (P := Tryf.prog) w 22 9 a1 n c1 0 0 Tryf.underlying22
  have hnl2 := fun w => Lib.run_eql_slice_nil (P := Tryf.prog) w 22 9 a2 n c2 0 0 Tryf.underlying22
  rw [hnil] at hnl1
  clear h1 h2 q1 hnil
  go_enter Tryf.func15, Tryf.ntmps15
  go_wp2
  go_loopw [5] (fun i wr => ∃ k m : Nat, k ≤ n ∧ i = .int .i64 k ∧ wr = w.drewN m) (fun i _ => n - (intOf i).toNat)
  case atStart => exact ⟨0, 0, Nat.zero_le _, rfl, rfl⟩
  case round =>
    obtain ⟨k, m, hk, rfl, rfl⟩ := hrel
    by_cases hlt : k < n
    · obtain ⟨s, hs⟩ : ∃ s, xs[k]? = some s := ⟨xs[k]'(by have := unhide l1; omega), by simp⟩
      obtain ⟨b1, o1, he1, hcl1⟩ := hc1 k s hs
      obtain ⟨b2, o2, he2, hcl2⟩ := hc2 k s hs
      cases he1
      cases he2
      clear hs hc1 hc2
      go_wp2
      go_quiet (fail)
      go_wp2
      go_roundw
      case rel => exact ⟨k + 1, _, by omega, by go_num, rfl⟩
      case measure => simp [intOf]; omega
    · go_wp2
      go_ret
      exact ⟨rfl, _, rfl⟩
end Go.Proofs.Qxb6609067aFmt
