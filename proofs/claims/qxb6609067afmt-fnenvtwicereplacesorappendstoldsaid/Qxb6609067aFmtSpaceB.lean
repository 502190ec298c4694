import Derived.Test.Qxb6609067aFmtSpace
namespace Go.Proofs.Qxb6609067aFmt
open Go.RowKit

theorem hs_three (a b c : UInt8) (r : List UInt8) : hsF (a :: b :: c :: r) = 3 ↔ threeZ a.toNat b.toNat c.toNat := by
  obtain ⟨h1, h2, h3, h4⟩ := hs3 a b c r
  constructor
  · intro h
    refine Classical.byContradiction fun hn => ?_
    by_cases ha : ascZ a.toNat
    · rw [h1 ha] at h; omega
    · by_cases ht : twoZ a.toNat b.toNat
      · rw [h2 ha ht] at h; omega
      · rw [h4 ha ht hn] at h; omega
  · intro h
    exact h3 (by unfold threeZ at h; unfold ascZ; omega) (by unfold threeZ at h; unfold twoZ; omega) h

theorem rev3 (s : ByteArray) (lo e : Nat) (h : lo + 3 ≤ e) (he : e ≤ s.size) : ∃ r, ((s.data.toList.drop lo).take (e - lo)).reverse = s[e - 1] :: s[e - 2] :: s[e - 3] :: r := by
  have h1 : (s.data.toList.drop lo).take (e - lo) = ((s.data.toList.drop lo).take (e - lo - 3)) ++ [s[e - 3], s[e - 2], s[e - 1]] := by
    have : e - lo = (e - lo - 3) + 3 := by omega
    conv => lhs; rw [this, List.take_add]
    congr 1
    rw [List.drop_drop, show lo + (e - lo - 3) = e - 3 by omega, drop_byte s (e - 3) (by omega), drop_byte s (e - 3 + 1) (by omega), drop_byte s (e - 3 + 1 + 1) (by omega)]
    simp only [List.take_succ_cons, List.take_zero, show e - 3 + 1 = e - 2 by omega, show e - 2 + 1 = e - 1 by omega]
  exact ⟨_, by rw [h1, List.reverse_append]; rfl⟩

theorem rev2 (s : ByteArray) (lo e : Nat) (h : lo + 2 = e) (he : e ≤ s.size) : ((s.data.toList.drop lo).take (e - lo)).reverse = [s[e - 1], s[e - 2]] := by
  subst h
  rw [drop_byte s lo (by omega), drop_byte s (lo + 1) (by omega)]
  simp [show lo + 2 - lo = 2 by omega]

theorem rev1 (s : ByteArray) (lo e : Nat) (h : lo + 1 = e) (he : e ≤ s.size) : ((s.data.toList.drop lo).take (e - lo)).reverse = [s[e - 1]] := by
  subst h
  rw [drop_byte s lo (by omega)]
  simp [show lo + 1 - lo = 1 by omega]

set_option linter.unusedSimpArgs false in
set_option maxRecDepth 100000 in
set_option maxHeartbeats 4000000 in
theorem before3 (s : ByteArray) (lo e : Nat) (w : World) (hs : s.size ≤ 1048576) (hlo : lo + 3 ≤ e) (he : e ≤ s.size) : Calls Tryf.prog 33 #[.string s, .int .i64 lo, .int .i64 e] w (IntPost (tsF ((s.data.toList.drop lo).take (e - lo)).reverse : Nat) w) := by
  obtain ⟨r, hr⟩ := rev3 s lo e hlo he
  rw [hr]
  have H := ts3 s[e - 1] s[e - 2] s[e - 3] r
  generalize tsF (s[e - 1] :: s[e - 2] :: s[e - 3] :: r) = R at *
  have hd : s.data.toList.drop (e - 3) = s[e - 3] :: s[e - 2] :: s[e - 1] :: s.data.toList.drop e := by
    rw [drop_byte s (e - 3) (by omega), drop_byte s (e - 3 + 1) (by omega), drop_byte s (e - 3 + 1 + 1) (by omega)]
    simp only [show e - 3 + 1 = e - 2 by omega, show e - 2 + 1 = e - 1 by omega, show e - 1 + 1 = e by omega]
  have HA := spaceAt_any s (e - 3) w hs (by omega)
  have hT := hs_three s[e - 3] s[e - 2] s[e - 1] (s.data.toList.drop e)
  rw [← hd, ← headSpace_eq] at hT
  generalize Lib.headSpace (s.data.toList.drop (e - 3)) = T at *
  have H' := hide H
  have HA' := hide HA
  have hT' := hide hT
  clear H HA hT hd hr
  go_enter Tryf.func33, Tryf.ntmps33
  go_wp2_with fail
  all_goals first
    | (rw [show ((e : Int) - 3) = ((e - 3 : Nat) : Int) from by omega]
       refine (unhide HA').mono ?_
       rintro e' w' ⟨rfl, rfl⟩
       by_cases hT3 : T = 3
       · have hTb : ((T : Int) == 3) = true := by rw [beq_iff_eq]; omega
         have h3 := hide ((unhide hT').1 hT3)
         clear hT3
         go_wp2
         go_ret
         have H := unhide H'
         have h3' := unhide h3
         clear H' HA' hT' h3
         try simp only [beq_eq_false_iff_ne, beq_iff_eq, ne_eq, decide_eq_true_eq, decide_eq_false_iff_not, Bool.or_eq_true, Bool.and_eq_true, Bool.or_eq_false_iff, Bool.and_eq_false_iff] at *
         exact ⟨val3 (H.2.2.1 (by unfold ascZ; omega) (by unfold twoZ; omega) h3'), rfl⟩
       · have hTb : ((T : Int) == 3) = false := by rw [beq_eq_false_iff_ne]; omega
         have h3 := hide (fun h => hT3 ((unhide hT').2 h))
         clear hT3
         go_wp2
         go_ret
         have H := unhide H'
         have h3' := unhide h3
         clear H' HA' hT' h3
         try simp only [beq_eq_false_iff_ne, beq_iff_eq, ne_eq, decide_eq_true_eq, decide_eq_false_iff_not, Bool.or_eq_true, Bool.and_eq_true, Bool.or_eq_false_iff, Bool.and_eq_false_iff] at *
         exact ⟨val0 (H.2.2.2 (by unfold ascZ; omega) (by unfold twoZ; omega) h3'), rfl⟩)
    | (go_ret
       have H := unhide H'
       clear H' HA' hT'
       try simp only [beq_eq_false_iff_ne, beq_iff_eq, ne_eq, decide_eq_true_eq, decide_eq_false_iff_not, Bool.or_eq_true, Bool.and_eq_true, Bool.or_eq_false_iff, Bool.and_eq_false_iff] at *
       first
         | exact ⟨val1 (H.1 (by unfold ascZ; omega)), rfl⟩
         | exact ⟨val2 (H.2.1 (by unfold ascZ; omega) (by unfold twoZ; omega)), rfl⟩)

set_option linter.unusedSimpArgs false in
set_option maxRecDepth 100000 in
set_option maxHeartbeats 4000000 in
theorem before2 (s : ByteArray) (lo e : Nat) (w : World) (hs : s.size ≤ 1048576) (hlo : lo + 2 ≤ e) (hlo2 : e ≤ lo + 2) (he : e ≤ s.size) : Calls Tryf.prog 33 #[.string s, .int .i64 lo, .int .i64 e] w (IntPost (tsF ((s.data.toList.drop lo).take (e - lo)).reverse : Nat) w) := by
  rw [rev2 s lo e (by omega) he]
  have H := ts2 s[e - 1] s[e - 2]
  generalize tsF [s[e - 1], s[e - 2]] = R at *
  have H' := hide H
  clear H
  go_enter Tryf.func33, Tryf.ntmps33
  go_wp2
  all_goals
    go_ret
    have H := unhide H'
    clear H'
    try simp only [beq_eq_false_iff_ne, beq_iff_eq, ne_eq, decide_eq_true_eq, decide_eq_false_iff_not, Bool.or_eq_true, Bool.and_eq_true, Bool.or_eq_false_iff, Bool.and_eq_false_iff] at *
    first
      | exact ⟨val1 (H.1 (by unfold ascZ; omega)), rfl⟩
      | exact ⟨val2 (H.2.1 (by unfold ascZ; omega) (by unfold twoZ; omega)), rfl⟩
      | exact ⟨val0 (H.2.2 (by unfold ascZ; omega) (by unfold twoZ; omega)), rfl⟩

set_option linter.unusedSimpArgs false in
set_option maxRecDepth 100000 in
set_option maxHeartbeats 4000000 in
theorem before1 (s : ByteArray) (lo e : Nat) (w : World) (hs : s.size ≤ 1048576) (hlo : lo + 1 ≤ e) (hlo2 : e ≤ lo + 1) (he : e ≤ s.size) : Calls Tryf.prog 33 #[.string s, .int .i64 lo, .int .i64 e] w (IntPost (tsF ((s.data.toList.drop lo).take (e - lo)).reverse : Nat) w) := by
  rw [rev1 s lo e (by omega) he]
  have H := ts1 s[e - 1]
  generalize tsF [s[e - 1]] = R at *
  have H' := hide H
  clear H
  go_enter Tryf.func33, Tryf.ntmps33
  go_wp2
  all_goals
    go_ret
    have H := unhide H'
    clear H'
    try simp only [beq_eq_false_iff_ne, beq_iff_eq, ne_eq, decide_eq_true_eq, decide_eq_false_iff_not, Bool.or_eq_true, Bool.and_eq_true, Bool.or_eq_false_iff, Bool.and_eq_false_iff] at *
    first
      | exact ⟨val1 (H.1 (by unfold ascZ; omega)), rfl⟩
      | exact ⟨val0 (H.2 (by unfold ascZ; omega)), rfl⟩

theorem before_any (s : ByteArray) (lo e : Nat) (w : World) (hs : s.size ≤ 1048576) (hlo : lo < e) (he : e ≤ s.size) : Calls Tryf.prog 33 #[.string s, .int .i64 lo, .int .i64 e] w (IntPost (Lib.tailSpace ((s.data.toList.drop lo).take (e - lo)) : Nat) w) := by
  rw [tailSpace_eq]
  by_cases h3 : lo + 3 ≤ e
  · exact before3 s lo e w hs h3 he
  · by_cases h2 : lo + 2 ≤ e
    · exact before2 s lo e w hs h2 (by omega) he
    · exact before1 s lo e w hs hlo (by omega) he
end Go.Proofs.Qxb6609067aFmt
