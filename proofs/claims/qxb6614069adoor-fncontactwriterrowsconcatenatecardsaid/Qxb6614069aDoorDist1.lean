import Derived.Test.Qxb6614069aDoorBase
namespace Go.Proofs.Qxb6614069aDoor
open Go.RowKit

set_option maxRecDepth 100000 in
set_option maxHeartbeats 1000000 in
/-- trb1AllDigits. -/
theorem allDigits_any (s : ByteArray) (w : World) (hs : s.size ≤ 1048576) (h1 : 1 ≤ s.size) (hd : ∀ j (hj : j < s.size), 48 ≤ s[j].toNat ∧ s[j].toNat ≤ 57) :
    Calls Tryd.prog 29 #[.string s] w fun e w' => e = .returned (.bool true) ∧ w' = w := by
  have hd' := hide hd
  have h0 : ¬ (s.size : Int) = 0 := by omega
  clear hd
  go_enter Tryd.func29, Tryd.ntmps29
  go_wp2
  go_loopw [3] (fun iv wr => ∃ i : Nat, i ≤ s.size ∧ iv = .int .i64 i ∧ wr = w) (fun iv _ => s.size - (RowKit.intOf iv).toNat)
  case atStart => exact ⟨0, Nat.zero_le _, rfl, rfl⟩
  case round =>
    obtain ⟨i, hi, rfl, hw⟩ := hrel
    replace hw := hw.symm
    subst hw
    by_cases hlt : i < s.size
    · obtain ⟨g1, g2⟩ := unhide hd' i hlt
      have g3 : ¬ ((s[i].toNat : Int) < 48) := by omega
      have g4 : ¬ (57 < (s[i].toNat : Int)) := by omega
      go_wp2
      go_roundw
      case rel => exact ⟨i + 1, by omega, by go_num, by first | rfl | simp⟩
      case measure => simp [RowKit.intOf]; omega
    · go_wp2
      go_ret
      exact ⟨rfl, rfl⟩

end Go.Proofs.Qxb6614069aDoor
