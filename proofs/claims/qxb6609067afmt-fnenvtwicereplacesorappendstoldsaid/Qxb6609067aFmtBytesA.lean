import Derived.Test.Qxb6609067aFmtClone
namespace Go.Proofs.Qxb6609067aFmt
open Go.RowKit

set_option maxRecDepth 100000 in
set_option maxHeartbeats 4000000 in
theorem bytesTwice (line : Int) (kw ar : ByteArray) (a3 a4 a5 a6 a7 : Option Addr) (n3 n4 n5 n6 n7 c3 c4 c5 c6 c7 : Nat) (x3 x4 x5 x6 x7 : List ByteArray) (w : World)
    (h3 : StrS w (.slice a3 n3 c3) x3) (h4 : StrS w (.slice a4 n4 c4) x4) (h5 : StrS w (.slice a5 n5 c5) x5) (h6 : StrS w (.slice a6 n6 c6) x6) (h7 : StrS w (.slice a7 n7 c7) x7) :
    Calls Tryf.prog 22 #[.int .i64 line, .string kw, .string ar, .slice a3 n3 c3, .slice a4 n4 c4, .slice a5 n5 c5, .slice a6 n6 c6, .slice a7 n7 c7] w (BytesPost kw ar x3 x4 x5 x6 x7 w) := by
  obtain ⟨q3, _, _, e3⟩ := h3.some_cases
  obtain ⟨q4, _, _, e4⟩ := h4.some_cases
  obtain ⟨q5, _, _, e5⟩ := h5.some_cases
  obtain ⟨q6, _, _, e6⟩ := h6.some_cases
  obtain ⟨q7, _, _, e7⟩ := h7.some_cases
  have l3 := hide q3
  have l4 := hide q4
  have l5 := hide q5
  have l6 := hide q6
  have l7 := hide q7
  clear h3 h4 h5 h6 h7 q3 q4 q5 q6 q7
  go_enter Tryf.func22, Tryf.ntmps22
  go_wp2
  all_goals try (go_ret; exact BytesPost.no)
  go_loop [17, 18] (fun z i => ∃ k m : Nat, k ≤ n3 ∧ i = .int .i64 k ∧ z = .int .i64 m ∧ m ≤ 1048576 ∧ n3 ≤ 1048576 ∧ Hid (m = kw.size + ar.size + n3 + sizes (x3.take k))) (fun _ i => n3 - (intOf i).toNat)
  case atStart => first | exact ⟨0, kw.size + ar.size + n3, Nat.zero_le _, rfl, rfl, by omega, by omega, rfl⟩ | exact ⟨0, _, Nat.zero_le _, rfl, by go_num, by omega, by omega, by simp [Hid, sizes]; omega⟩
  case round =>
    obtain ⟨k, m, hk, rfl, rfl, hm, hn, hmq⟩ := hrel
    by_cases hlt : k < n3
    · obtain ⟨s, hs⟩ : ∃ s, x3[k]? = some s := ⟨x3[k]'(by have := unhide l3; omega), by simp⟩
      obtain ⟨b, o, he, hcl⟩ := e3 k s hs
      cases he
      have hsz := hide (sizes_take x3 k s hs)
      clear hs
      go_wp2
      all_goals try (go_ret; exact BytesPost.no)
      go_round
      case rel => exact ⟨k + 1, m + s.size, by omega, by go_num, by go_num, by omega, by omega, by have h1 := unhide hmq; have h2 := unhide hsz; simp only [Hid]; omega⟩
      case measure => simp [intOf]; omega
    · have hfull : Hid (m = kw.size + ar.size + (n3 + sizes x3)) := by
        have h1 := unhide hmq
        have h2 := unhide l3
        rw [List.take_of_length_le (by omega)] at h1
        simp only [Hid]; omega
      clear hmq
      go_wp2
      all_goals try (go_ret; exact BytesPost.no)
      obtain ⟨m3, hm3⟩ : ∃ q : Nat, q = m := ⟨_, rfl⟩
      subst hm3
      have hfull3 := hfull
      clear hfull
      go_loop [17, 19] (fun z i => ∃ k m : Nat, k ≤ n4 ∧ i = .int .i64 k ∧ z = .int .i64 m ∧ m ≤ 1048576 ∧ n4 ≤ 1048576 ∧ Hid (m = m3 + n4 + sizes (x4.take k))) (fun _ i => n4 - (intOf i).toNat)
      case atStart => first | exact ⟨0, m3 + n4, Nat.zero_le _, rfl, rfl, by omega, by omega, rfl⟩ | exact ⟨0, _, Nat.zero_le _, rfl, by go_num, by omega, by omega, by simp [Hid, sizes]; omega⟩
      case round =>
        obtain ⟨k, m, hk, rfl, rfl, hm, hn, hmq⟩ := hrel
        by_cases hlt : k < n4
        · obtain ⟨s, hs⟩ : ∃ s, x4[k]? = some s := ⟨x4[k]'(by have := unhide l4; omega), by simp⟩
          obtain ⟨b, o, he, hcl⟩ := e4 k s hs
          cases he
          have hsz := hide (sizes_take x4 k s hs)
          clear hs
          go_wp2
          all_goals try (go_ret; exact BytesPost.no)
          go_round
          case rel => exact ⟨k + 1, m + s.size, by omega, by go_num, by go_num, by omega, by omega, by have h1 := unhide hmq; have h2 := unhide hsz; simp only [Hid]; omega⟩
          case measure => simp [intOf]; omega
        · have hfull : Hid (m = m3 + (n4 + sizes x4)) := by
            have h1 := unhide hmq
            have h2 := unhide l4
            rw [List.take_of_length_le (by omega)] at h1
            simp only [Hid]; omega
          clear hmq
          go_wp2
          all_goals try (go_ret; exact BytesPost.no)
          obtain ⟨m4, hm4⟩ : ∃ q : Nat, q = m := ⟨_, rfl⟩
          subst hm4
          have hfull4 := hfull
          clear hfull
          go_loop [17, 20] (fun z i => ∃ k m : Nat, k ≤ n5 ∧ i = .int .i64 k ∧ z = .int .i64 m ∧ m ≤ 1048576 ∧ n5 ≤ 1048576 ∧ Hid (m = m4 + n5 + sizes (x5.take k))) (fun _ i => n5 - (intOf i).toNat)
          case atStart => first | exact ⟨0, m4 + n5, Nat.zero_le _, rfl, rfl, by omega, by omega, rfl⟩ | exact ⟨0, _, Nat.zero_le _, rfl, by go_num, by omega, by omega, by simp [Hid, sizes]; omega⟩
          case round =>
            obtain ⟨k, m, hk, rfl, rfl, hm, hn, hmq⟩ := hrel
            by_cases hlt : k < n5
            · obtain ⟨s, hs⟩ : ∃ s, x5[k]? = some s := ⟨x5[k]'(by have := unhide l5; omega), by simp⟩
              obtain ⟨b, o, he, hcl⟩ := e5 k s hs
              cases he
              have hsz := hide (sizes_take x5 k s hs)
              clear hs
              go_wp2
              all_goals try (go_ret; exact BytesPost.no)
              go_round
              case rel => exact ⟨k + 1, m + s.size, by omega, by go_num, by go_num, by omega, by omega, by have h1 := unhide hmq; have h2 := unhide hsz; simp only [Hid]; omega⟩
              case measure => simp [intOf]; omega
            · have hfull : Hid (m = m4 + (n5 + sizes x5)) := by
                have h1 := unhide hmq
                have h2 := unhide l5
                rw [List.take_of_length_le (by omega)] at h1
                simp only [Hid]; omega
              clear hmq
              go_wp2
              all_goals try (go_ret; exact BytesPost.no)
              obtain ⟨m5, hm5⟩ : ∃ q : Nat, q = m := ⟨_, rfl⟩
              subst hm5
              have hfull5 := hfull
              clear hfull
              go_loop [17, 21] (fun z i => ∃ k m : Nat, k ≤ n6 ∧ i = .int .i64 k ∧ z = .int .i64 m ∧ m ≤ 1048576 ∧ n6 ≤ 1048576 ∧ Hid (m = m5 + n6 + sizes (x6.take k))) (fun _ i => n6 - (intOf i).toNat)
              case atStart => first | exact ⟨0, m5 + n6, Nat.zero_le _, rfl, rfl, by omega, by omega, rfl⟩ | exact ⟨0, _, Nat.zero_le _, rfl, by go_num, by omega, by omega, by simp [Hid, sizes]; omega⟩
              case round =>
                obtain ⟨k, m, hk, rfl, rfl, hm, hn, hmq⟩ := hrel
                by_cases hlt : k < n6
                · obtain ⟨s, hs⟩ : ∃ s, x6[k]? = some s := ⟨x6[k]'(by have := unhide l6; omega), by simp⟩
                  obtain ⟨b, o, he, hcl⟩ := e6 k s hs
                  cases he
                  have hsz := hide (sizes_take x6 k s hs)
                  clear hs
                  go_wp2
                  all_goals try (go_ret; exact BytesPost.no)
                  go_round
                  case rel => exact ⟨k + 1, m + s.size, by omega, by go_num, by go_num, by omega, by omega, by have h1 := unhide hmq; have h2 := unhide hsz; simp only [Hid]; omega⟩
                  case measure => simp [intOf]; omega
                · have hfull : Hid (m = m5 + (n6 + sizes x6)) := by
                    have h1 := unhide hmq
                    have h2 := unhide l6
                    rw [List.take_of_length_le (by omega)] at h1
                    simp only [Hid]; omega
                  clear hmq
                  go_wp2
                  all_goals try (go_ret; exact BytesPost.no)
                  obtain ⟨m6, hm6⟩ : ∃ q : Nat, q = m := ⟨_, rfl⟩
                  subst hm6
                  have hfull6 := hfull
                  clear hfull
                  go_loop [17, 22] (fun z i => ∃ k m : Nat, k ≤ n7 ∧ i = .int .i64 k ∧ z = .int .i64 m ∧ m ≤ 1048576 ∧ n7 ≤ 1048576 ∧ Hid (m = m6 + n7 + sizes (x7.take k))) (fun _ i => n7 - (intOf i).toNat)
                  case atStart => first | exact ⟨0, m6 + n7, Nat.zero_le _, rfl, rfl, by omega, by omega, rfl⟩ | exact ⟨0, _, Nat.zero_le _, rfl, by go_num, by omega, by omega, by simp [Hid, sizes]; omega⟩
                  case round =>
                    obtain ⟨k, m, hk, rfl, rfl, hm, hn, hmq⟩ := hrel
                    by_cases hlt : k < n7
                    · obtain ⟨s, hs⟩ : ∃ s, x7[k]? = some s := ⟨x7[k]'(by have := unhide l7; omega), by simp⟩
                      obtain ⟨b, o, he, hcl⟩ := e7 k s hs
                      cases he
                      have hsz := hide (sizes_take x7 k s hs)
                      clear hs
                      go_wp2
                      all_goals try (go_ret; exact BytesPost.no)
                      go_round
                      case rel => exact ⟨k + 1, m + s.size, by omega, by go_num, by go_num, by omega, by omega, by have h1 := unhide hmq; have h2 := unhide hsz; simp only [Hid]; omega⟩
                      case measure => simp [intOf]; omega
                    · have hfull : Hid (m = m6 + (n7 + sizes x7)) := by
                        have h1 := unhide hmq
                        have h2 := unhide l7
                        rw [List.take_of_length_le (by omega)] at h1
                        simp only [Hid]; omega
                      clear hmq
                      go_wp2
                      all_goals try (go_ret; exact BytesPost.no)
                      go_ret
                      refine ⟨true, rfl, fun _ => ?_, rfl⟩
                      have r3 := unhide l3
                      have r4 := unhide l4
                      have r5 := unhide l5
                      have r6 := unhide l6
                      have r7 := unhide l7
                      have g3 := unhide hfull3
                      have g4 := unhide hfull4
                      have g5 := unhide hfull5
                      have g6 := unhide hfull6
                      have g7 := unhide hfull
                      omega

end Go.Proofs.Qxb6609067aFmt
