import Derived.Test.Qxb6609067aFmtUnit
import Derived.Test.Qxb6609067aFmtPlainE
namespace Go.Proofs.Qxb6609067aFmt
open Go.RowKit

theorem val0 {R : Nat} (h : R = 0) : Ending.returned (.int .i64 0) = .returned (.int .i64 (R : Int)) := by rw [h]; rfl
theorem val1 {R : Nat} (h : R = 1) : Ending.returned (.int .i64 1) = .returned (.int .i64 (R : Int)) := by rw [h]; rfl
theorem val2 {R : Nat} (h : R = 2) : Ending.returned (.int .i64 2) = .returned (.int .i64 (R : Int)) := by rw [h]; rfl
theorem val3 {R : Nat} (h : R = 3) : Ending.returned (.int .i64 3) = .returned (.int .i64 (R : Int)) := by rw [h]; rfl

set_option linter.unusedSimpArgs false in
set_option maxRecDepth 100000 in
set_option maxHeartbeats 4000000 in
theorem spaceAt1 (s : ByteArray) (k : Nat) (w : World) (hs : s.size ≤ 1048576) (hkk : k < s.size) (hk : s.size ≤ k + 1) : Calls Tryf.prog 32 #[.string s, .int .i64 k] w (IntPost (hsF (s.data.toList.drop k) : Nat) w) := by
  have hk1 : ¬ ((k : Int) + 1 < (s.size : Int)) := by omega
  have hk2 : ¬ ((k : Int) + 2 < (s.size : Int)) := by omega
  have hd : s.data.toList.drop k = [s[k]] := by
    rw [drop_byte s k (by omega), drop_end s (k + 1) (by omega)]
  rw [hd]
  have H := hs1 s[k]
  generalize hsF ([s[k]]) = R at *
  have H' := hide H
  clear H hd
  go_enter Tryf.func32, Tryf.ntmps32
  go_wp2
  all_goals
    go_ret
    have H := unhide H'
    clear H'
    try simp only [beq_eq_false_iff_ne, beq_iff_eq, ne_eq, decide_eq_true_eq, decide_eq_false_iff_not, Bool.or_eq_true, Bool.and_eq_true, Bool.or_eq_false_iff, Bool.and_eq_false_iff] at *
    first
      | exact ⟨val1 (H.1 (by unfold ascZ; omega)), rfl⟩
      | exact ⟨val0 (H.2 (by unfold ascZ; omega)), rfl⟩

set_option linter.unusedSimpArgs false in
set_option maxRecDepth 100000 in
set_option maxHeartbeats 4000000 in
theorem spaceAt2 (s : ByteArray) (k : Nat) (w : World) (hs : s.size ≤ 1048576) (hkk : k + 1 < s.size) (hk : s.size ≤ k + 2) : Calls Tryf.prog 32 #[.string s, .int .i64 k] w (IntPost (hsF (s.data.toList.drop k) : Nat) w) := by
  have hk2 : ¬ ((k : Int) + 2 < (s.size : Int)) := by omega
  have hd : s.data.toList.drop k = [s[k], s[k + 1]] := by
    rw [drop_byte s k (by omega), drop_byte s (k + 1) (by omega), drop_end s (k + 2) (by omega)]
  rw [hd]
  have H := hs2 s[k] s[k + 1]
  generalize hsF ([s[k], s[k + 1]]) = R at *
  have H' := hide H
  clear H hd
  go_enter Tryf.func32, Tryf.ntmps32
  go_wp2
  all_goals
    go_ret
    have H := unhide H'
    clear H'
    try simp only [beq_eq_false_iff_ne, beq_iff_eq, ne_eq, decide_eq_true_eq, decide_eq_false_iff_not, Bool.or_eq_true, Bool.and_eq_true, Bool.or_eq_false_iff, Bool.and_eq_false_iff] at *
    first
      | exact ⟨val1 (H.1 (by unfold ascZ; omega)), rfl⟩
      | exact ⟨val2 (H.2.1 (by unfold ascZ; omega) (by unfold twoZ; omega)), rfl⟩
      | exact ⟨val0 (H.2.2 (by unfold ascZ; omega) (by unfold twoZ; omega)), rfl⟩

set_option linter.unusedSimpArgs false in
set_option maxRecDepth 100000 in
set_option maxHeartbeats 4000000 in
theorem spaceAt3 (s : ByteArray) (k : Nat) (w : World) (hs : s.size ≤ 1048576) (hk : k + 2 < s.size) : Calls Tryf.prog 32 #[.string s, .int .i64 k] w (IntPost (hsF (s.data.toList.drop k) : Nat) w) := by
  have hd : s.data.toList.drop k = s[k] :: s[k + 1] :: s[k + 2] :: s.data.toList.drop (k + 3) := by
    rw [drop_byte s k (by omega), drop_byte s (k + 1) (by omega), drop_byte s (k + 2) (by omega)]
  rw [hd]
  have H := hs3 s[k] s[k + 1] s[k + 2] (s.data.toList.drop (k + 3))
  generalize hsF (s[k] :: s[k + 1] :: s[k + 2] :: s.data.toList.drop (k + 3)) = R at *
  have H' := hide H
  clear H hd
  go_enter Tryf.func32, Tryf.ntmps32
  go_wp2
  all_goals
    go_ret
    have H := unhide H'
    clear H'
    try simp only [beq_eq_false_iff_ne, beq_iff_eq, ne_eq, decide_eq_true_eq, decide_eq_false_iff_not, Bool.or_eq_true, Bool.and_eq_true, Bool.or_eq_false_iff, Bool.and_eq_false_iff] at *
    first
      | exact ⟨val1 (H.1 (by unfold ascZ; omega)), rfl⟩
      | exact ⟨val2 (H.2.1 (by unfold ascZ; omega) (by unfold twoZ; omega)), rfl⟩
      | exact ⟨val3 (H.2.2.1 (by unfold ascZ; omega) (by unfold twoZ; omega) (by unfold threeZ; omega)), rfl⟩
      | exact ⟨val0 (H.2.2.2 (by unfold ascZ; omega) (by unfold twoZ; omega) (by unfold threeZ; omega)), rfl⟩

theorem spaceAt_any (s : ByteArray) (k : Nat) (w : World) (hs : s.size ≤ 1048576) (hk : k < s.size) : Calls Tryf.prog 32 #[.string s, .int .i64 k] w (IntPost (Lib.headSpace (s.data.toList.drop k) : Nat) w) := by
  rw [headSpace_eq]
  by_cases h2 : k + 2 < s.size
  · exact spaceAt3 s k w hs h2
  · by_cases h1 : k + 2 = s.size
    · exact spaceAt2 s k w hs (by omega) (by omega)
    · exact spaceAt1 s k w hs hk (by omega)
end Go.Proofs.Qxb6609067aFmt
