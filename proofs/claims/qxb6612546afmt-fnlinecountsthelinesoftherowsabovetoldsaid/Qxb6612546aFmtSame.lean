import Derived.Test.Qxb6612546aFmtGuard
import Derived.BigQuiet
import Derived.Deep.QuietTactic
namespace Go.Proofs.Qxb6612546aFmt
open Go.RowKit

set_option maxRecDepth 100000 in
set_option maxHeartbeats 1000000 in
/-- zzSame: are the two lists one? -/
theorem same_any (a1 a2 : Option Addr) (n1 n2 c1 c2 : Nat) (xs ys : List ByteArray) (w : World) (h1 : StrS w (.slice a1 n1 c1) xs) (h2 : StrS w (.slice a2 n2 c2) ys) (hb1 : n1 ≤ 1048576000) (hb2 : n2 ≤ 1048576000) :
    Calls Tryf.prog 17 #[.slice a1 n1 c1, .slice a2 n2 c2] w fun e w' => e = .returned (.bool (decide (xs = ys))) ∧ ∃ m, w' = w.drewN m := by
  obtain ⟨l1, _, _, hc1⟩ := h1.some_cases
  obtain ⟨l2, _, _, hc2⟩ := h2.some_cases
  have hc1' := hide hc1
  have hc2' := hide hc2
  clear h1 h2 hc1 hc2
  by_cases hn : n1 = n2
  · subst hn
    have l1' := hide l1
    have l2' := hide l2
    clear l1 l2
    go_enter Tryf.func17, Tryf.ntmps17
    go_wp2
    go_loopw [5] (fun iv wr => ∃ i m : Nat, i ≤ n1 ∧ iv = .int .i64 i ∧ wr = w.drewN m ∧ xs.take i = ys.take i) (fun iv _ => n1 - (intOf iv).toNat)
    case atStart => exact ⟨0, 0, Nat.zero_le _, rfl, rfl, by simp⟩
    case round =>
      obtain ⟨i, m, hi, rfl, rfl, ht⟩ := hrel
      have ht' := hide ht
      clear ht
      by_cases hlt : i < n1
      · obtain ⟨x, hx⟩ : ∃ x, xs[i]? = some x := ⟨xs[i]'(by have := unhide l1'; omega), by simp⟩
        obtain ⟨y, hy⟩ : ∃ y, ys[i]? = some y := ⟨ys[i]'(by have := unhide l2'; omega), by simp⟩
        obtain ⟨b1, o1, rfl, cx⟩ := unhide hc1' i x hx
        obtain ⟨b2, o2, rfl, cy⟩ := unhide hc2' i y hy
        have hltI : (i : Int) < n1 := by omega
        by_cases hxy : x = y
        · subst hxy
          have ht2 : Hid (xs.take (i + 1) = ys.take (i + 1)) := by
            obtain ⟨q1, q2⟩ := List.getElem?_eq_some_iff.1 hx
            obtain ⟨q3, q4⟩ := List.getElem?_eq_some_iff.1 hy
            rw [Hid, List.take_succ_eq_append_getElem q1, List.take_succ_eq_append_getElem q3, unhide ht', q2, q4]
          clear hx hy
          go_wp2
          go_quiet (fail)
          go_wp2
          go_roundw
          case rel => exact ⟨i + 1, _, by omega, by go_num, rfl, unhide ht2⟩
          case measure => simp [intOf]; omega
        · have hne : xs ≠ ys := by
            rintro rfl
            rw [hx] at hy
            exact hxy (by simpa using hy)
          have hne' := hide hne
          have hxb : (x.toList == y.toList) = false := by
            rw [beq_eq_false_iff_ne]
            intro e
            rw [ByteArray.toList_eq, ByteArray.toList_eq] at e
            exact hxy (ByteArray.ext (Array.ext' e))
          clear hx hy hne
          go_wp2
          go_quiet (fail)
          go_wp2
          go_ret
          exact ⟨by simp [unhide hne'], m + nq, by simp⟩
      · have heq : Hid (xs = ys) := by
          have h1 := unhide ht'
          rw [List.take_of_length_le (by have := unhide l1'; omega), List.take_of_length_le (by have := unhide l2'; omega)] at h1
          exact h1
        go_wp2
        go_ret
        exact ⟨by simp [unhide heq], _, rfl⟩
  · have hd : xs ≠ ys := fun e => hn (by rw [← l1, ← l2, e])
    have hd' := hide hd
    have hnI : ¬ ((n1 : Int) = n2) := by omega
    clear l1 l2 hd
    go_enter Tryf.func17, Tryf.ntmps17
    go_wp2
    go_ret
    exact ⟨by simp [unhide hd'], 0, rfl⟩
end Go.Proofs.Qxb6612546aFmt
