import Derived.Test.Qxb6609067aFmtClone
namespace Go.Proofs.Qxb6609067aFmt
open Go.RowKit

/-- It returns a number from -1 to 2^20; nothing has turned. -/
def SizePost (w : World) (e : Ending) (w' : World) : Prop := ∃ r : Int, e = .returned (.int .i64 r) ∧ -1 ≤ r ∧ r ≤ 1048576 ∧ w' = w

set_option maxHeartbeats 400000 in
theorem addLen_any (t n : Int) (w : World) (h1 : -1 ≤ t) (h2 : t ≤ 1048576) (h3 : 0 ≤ n) (h4 : n ≤ 9223372036854775807) : Calls Tryf.prog 27 #[.int .i64 t, .int .i64 n] w (SizePost w) := by
  go_enter Tryf.func27, Tryf.ntmps27
  go_wp2
  all_goals go_ret
  all_goals exact ⟨_, rfl, by omega, by omega, rfl⟩

set_option maxHeartbeats 400000 in
theorem addStrings_any (t : Int) (a : Option Addr) (n c : Nat) (xs : List ByteArray) (w : World) (h : StrS w (.slice a n c) xs) (h1 : -1 ≤ t) (h2 : t ≤ 1048576) (hn : n ≤ 1048576) :
    Calls Tryf.prog 28 #[.int .i64 t, .slice a n c] w (SizePost w) := by
  obtain ⟨q, _, _, hc⟩ := h.some_cases
  have l := hide q
  clear h q
  by_cases ht : t < 0
  · go_enter Tryf.func28, Tryf.ntmps28
    go_wp2
    go_ret
    exact ⟨-1, rfl, by omega, by omega, rfl⟩
  by_cases hbig : (1048576 - t) / 16 < (n : Int)
  · go_enter Tryf.func28, Tryf.ntmps28
    go_wp2
    go_ret
    exact ⟨-1, rfl, by omega, by omega, rfl⟩
  go_enter Tryf.func28, Tryf.ntmps28
  go_wp2
  go_loop [0, 5] (fun z i => ∃ (k : Nat) (m : Int), k ≤ n ∧ i = .int .i64 k ∧ z = .int .i64 m ∧ 0 ≤ m ∧ m ≤ 1048576) (fun _ i => n - (intOf i).toNat)
  case atStart => exact ⟨0, _, Nat.zero_le _, rfl, rfl, by omega, by omega⟩
  case round =>
    obtain ⟨k, m, hk, rfl, rfl, hm0, hm⟩ := hrel
    by_cases hlt : k < n
    · obtain ⟨s, hs⟩ : ∃ s, xs[k]? = some s := ⟨xs[k]'(by have := unhide l; omega), by simp⟩
      obtain ⟨b, o, he, hcl⟩ := hc k s hs
      cases he
      clear hs
      go_wp2
      all_goals try (go_ret; exact ⟨-1, rfl, by omega, by omega, rfl⟩)
      go_round
      case rel => exact ⟨k + 1, m + s.size, by omega, by go_num, by go_num, by omega, by omega⟩
      case measure => simp [intOf]; omega
    · go_wp2
      go_ret
      exact ⟨m, rfl, by omega, by omega, rfl⟩

set_option maxHeartbeats 400000 in
theorem instSize_any (kw ar : ByteArray) (a3 a4 a5 a6 a7 : Option Addr) (n3 n4 n5 n6 n7 c3 c4 c5 c6 c7 : Nat) (x3 x4 x5 x6 x7 : List ByteArray) (w : World)
    (h3 : StrS w (.slice a3 n3 c3) x3) (h4 : StrS w (.slice a4 n4 c4) x4) (h5 : StrS w (.slice a5 n5 c5) x5) (h6 : StrS w (.slice a6 n6 c6) x6) (h7 : StrS w (.slice a7 n7 c7) x7)
    (hk : kw.size ≤ 1048576) (ha : ar.size ≤ 1048576) (m3 : n3 ≤ 1048576) (m4 : n4 ≤ 1048576) (m5 : n5 ≤ 1048576) (m6 : n6 ≤ 1048576) (m7 : n7 ≤ 1048576) :
    Calls Tryf.prog 8 #[.string kw, .string ar, .slice a3 n3 c3, .slice a4 n4 c4, .slice a5 n5 c5, .slice a6 n6 c6, .slice a7 n7 c7] w (SizePost w) := by
  go_enter Tryf.func8, Tryf.ntmps8
  go_wp2_with fail
  refine (addLen_any _ _ _ (by omega) (by omega) (by omega) (by omega)).mono ?_
  rintro e w' ⟨r1, rfl, b1, d1, rfl⟩
  go_wp2_with fail
  refine (addLen_any _ _ _ (by omega) (by omega) (by omega) (by omega)).mono ?_
  rintro e w' ⟨r2, rfl, b2, d2, rfl⟩
  go_wp2_with fail
  refine (addStrings_any _ _ _ _ x3 _ h3 (by omega) (by omega) (by omega)).mono ?_
  rintro e w' ⟨r3, rfl, b3, d3, rfl⟩
  go_wp2_with fail
  refine (addStrings_any _ _ _ _ x4 _ h4 (by omega) (by omega) (by omega)).mono ?_
  rintro e w' ⟨r4, rfl, b4, d4, rfl⟩
  go_wp2_with fail
  refine (addStrings_any _ _ _ _ x5 _ h5 (by omega) (by omega) (by omega)).mono ?_
  rintro e w' ⟨r5, rfl, b5, d5, rfl⟩
  go_wp2_with fail
  refine (addStrings_any _ _ _ _ x6 _ h6 (by omega) (by omega) (by omega)).mono ?_
  rintro e w' ⟨r6, rfl, b6, d6, rfl⟩
  go_wp2_with fail
  refine (addStrings_any _ _ _ _ x7 _ h7 (by omega) (by omega) (by omega)).mono ?_
  rintro e w' ⟨r7, rfl, b7, d7, rfl⟩
  go_wp2
  go_ret
  exact ⟨_, rfl, b7, d7, rfl⟩
end Go.Proofs.Qxb6609067aFmt
