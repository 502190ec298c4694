import Derived.Test.Qxb6612546aFmtClone
namespace Go.Proofs.Qxb6612546aFmt
open Go.RowKit

/-- What the guard on the total length says. -/
def TextPost (tx : ByteArray) (x3 x4 : List ByteArray) (w : World) (e : Ending) (w' : World) : Prop :=
  ∃ b : Bool, e = .returned (.bool b) ∧ (b = true → tx.size + (x3.length + sizes x3) + (x4.length + sizes x4) ≤ 1048576) ∧ w' = w

theorem TextPost.no {tx : ByteArray} {x3 x4 : List ByteArray} {w : World} : TextPost tx x3 x4 w (.returned (.bool false)) w := ⟨false, rfl, (by intro h; cases h), rfl⟩

set_option maxRecDepth 100000 in
set_option maxHeartbeats 4000000 in
theorem bytesLineIs (tx : ByteArray) (a3 a4 : Option Addr) (n3 n4 c3 c4 : Nat) (x3 x4 : List ByteArray) (w : World) (h3 : StrS w (.slice a3 n3 c3) x3) (h4 : StrS w (.slice a4 n4 c4) x4) :
    Calls Tryf.prog 28 #[.string tx, .slice a3 n3 c3, .slice a4 n4 c4] w (TextPost tx x3 x4 w) := by
  obtain ⟨q3, _, _, e3⟩ := h3.some_cases
  obtain ⟨q4, _, _, e4⟩ := h4.some_cases
  have l3 := hide q3
  have l4 := hide q4
  clear h3 h4 q3 q4
  go_enter Tryf.func28, Tryf.ntmps28
  go_wp2
  all_goals try (go_ret; exact TextPost.no)
  go_loop [7, 8] (fun z i => ∃ k m : Nat, k ≤ n3 ∧ i = .int .i64 k ∧ z = .int .i64 m ∧ m ≤ 1048576 ∧ n3 ≤ 1048576 ∧ Hid (m = tx.size + n3 + sizes (x3.take k))) (fun _ i => n3 - (intOf i).toNat)
  case atStart => first | exact ⟨0, tx.size + n3, Nat.zero_le _, rfl, rfl, by omega, by omega, rfl⟩ | exact ⟨0, _, Nat.zero_le _, rfl, by go_num, by omega, by omega, by simp [Hid, sizes]; omega⟩
  case round =>
    obtain ⟨k, m, hk, rfl, rfl, hm, hn, hmq⟩ := hrel
    by_cases hlt : k < n3
    · obtain ⟨s, hs⟩ : ∃ s, x3[k]? = some s := ⟨x3[k]'(by have := unhide l3; omega), by simp⟩
      obtain ⟨b, o, he, hcl⟩ := e3 k s hs
      cases he
      have hsz := hide (sizes_take x3 k s hs)
      clear hs
      go_wp2
      all_goals try (go_ret; exact TextPost.no)
      go_round
      case rel => exact ⟨k + 1, m + s.size, by omega, by go_num, by go_num, by omega, by omega, by have h1 := unhide hmq; have h2 := unhide hsz; simp only [Hid]; omega⟩
      case measure => simp [intOf]; omega
    · have hfull : Hid (m = tx.size + (n3 + sizes x3)) := by
        have h1 := unhide hmq
        have h2 := unhide l3
        rw [List.take_of_length_le (by omega)] at h1
        simp only [Hid]; omega
      clear hmq
      go_wp2
      all_goals try (go_ret; exact TextPost.no)
      obtain ⟨m3, hm3⟩ : ∃ q : Nat, q = m := ⟨_, rfl⟩
      subst hm3
      have hfull3 := hfull
      clear hfull
      go_loop [7, 9] (fun z i => ∃ k m : Nat, k ≤ n4 ∧ i = .int .i64 k ∧ z = .int .i64 m ∧ m ≤ 1048576 ∧ n4 ≤ 1048576 ∧ Hid (m = m3 + n4 + sizes (x4.take k))) (fun _ i => n4 - (intOf i).toNat)
      case atStart => first | exact ⟨0, m3 + n4, Nat.zero_le _, rfl, rfl, by omega, by omega, rfl⟩ | exact ⟨0, _, Nat.zero_le _, rfl, by go_num, by omega, by omega, by simp [Hid, sizes]; omega⟩
      case round =>
        obtain ⟨k, m, hk, rfl, rfl, hm, hn, hmq⟩ := hrel
        by_cases hlt : k < n4
        · obtain ⟨s, hs⟩ : ∃ s, x4[k]? = some s := ⟨x4[k]'(by have := unhide l4; omega), by simp⟩
          obtain ⟨b, o, he, hcl⟩ := e4 k s hs
          cases he
          have hsz := hide (sizes_take x4 k s hs)
          clear hs
          go_wp2
          all_goals try (go_ret; exact TextPost.no)
          go_round
          case rel => exact ⟨k + 1, m + s.size, by omega, by go_num, by go_num, by omega, by omega, by have h1 := unhide hmq; have h2 := unhide hsz; simp only [Hid]; omega⟩
          case measure => simp [intOf]; omega
        · have hfull : Hid (m = m3 + (n4 + sizes x4)) := by
            have h1 := unhide hmq
            have h2 := unhide l4
            rw [List.take_of_length_le (by omega)] at h1
            simp only [Hid]; omega
          clear hmq
          go_wp2
          all_goals try (go_ret; exact TextPost.no)
          go_ret
          refine ⟨true, rfl, fun _ => ?_, rfl⟩
          have r3 := unhide l3
          have r4 := unhide l4
          have g3 := unhide hfull3
          have g4 := unhide hfull
          omega

set_option maxRecDepth 100000 in
set_option maxHeartbeats 4000000 in
theorem bytesReads (tx : ByteArray) (a3 a4 : Option Addr) (n3 n4 c3 c4 : Nat) (x3 x4 : List ByteArray) (w : World) (h3 : StrS w (.slice a3 n3 c3) x3) (h4 : StrS w (.slice a4 n4 c4) x4) :
    Calls Tryf.prog 8 #[.string tx, .slice a3 n3 c3, .slice a4 n4 c4] w (TextPost tx x3 x4 w) := by
  obtain ⟨q3, _, _, e3⟩ := h3.some_cases
  obtain ⟨q4, _, _, e4⟩ := h4.some_cases
  have l3 := hide q3
  have l4 := hide q4
  clear h3 h4 q3 q4
  go_enter Tryf.func8, Tryf.ntmps8
  go_wp2
  all_goals try (go_ret; exact TextPost.no)
  go_loop [7, 8] (fun z i => ∃ k m : Nat, k ≤ n3 ∧ i = .int .i64 k ∧ z = .int .i64 m ∧ m ≤ 1048576 ∧ n3 ≤ 1048576 ∧ Hid (m = tx.size + n3 + sizes (x3.take k))) (fun _ i => n3 - (intOf i).toNat)
  case atStart => first | exact ⟨0, tx.size + n3, Nat.zero_le _, rfl, rfl, by omega, by omega, rfl⟩ | exact ⟨0, _, Nat.zero_le _, rfl, by go_num, by omega, by omega, by simp [Hid, sizes]; omega⟩
  case round =>
    obtain ⟨k, m, hk, rfl, rfl, hm, hn, hmq⟩ := hrel
    by_cases hlt : k < n3
    · obtain ⟨s, hs⟩ : ∃ s, x3[k]? = some s := ⟨x3[k]'(by have := unhide l3; omega), by simp⟩
      obtain ⟨b, o, he, hcl⟩ := e3 k s hs
      cases he
      have hsz := hide (sizes_take x3 k s hs)
      clear hs
      go_wp2
      all_goals try (go_ret; exact TextPost.no)
      go_round
      case rel => exact ⟨k + 1, m + s.size, by omega, by go_num, by go_num, by omega, by omega, by have h1 := unhide hmq; have h2 := unhide hsz; simp only [Hid]; omega⟩
      case measure => simp [intOf]; omega
    · have hfull : Hid (m = tx.size + (n3 + sizes x3)) := by
        have h1 := unhide hmq
        have h2 := unhide l3
        rw [List.take_of_length_le (by omega)] at h1
        simp only [Hid]; omega
      clear hmq
      go_wp2
      all_goals try (go_ret; exact TextPost.no)
      obtain ⟨m3, hm3⟩ : ∃ q : Nat, q = m := ⟨_, rfl⟩
      subst hm3
      have hfull3 := hfull
      clear hfull
      go_loop [7, 9] (fun z i => ∃ k m : Nat, k ≤ n4 ∧ i = .int .i64 k ∧ z = .int .i64 m ∧ m ≤ 1048576 ∧ n4 ≤ 1048576 ∧ Hid (m = m3 + n4 + sizes (x4.take k))) (fun _ i => n4 - (intOf i).toNat)
      case atStart => first | exact ⟨0, m3 + n4, Nat.zero_le _, rfl, rfl, by omega, by omega, rfl⟩ | exact ⟨0, _, Nat.zero_le _, rfl, by go_num, by omega, by omega, by simp [Hid, sizes]; omega⟩
      case round =>
        obtain ⟨k, m, hk, rfl, rfl, hm, hn, hmq⟩ := hrel
        by_cases hlt : k < n4
        · obtain ⟨s, hs⟩ : ∃ s, x4[k]? = some s := ⟨x4[k]'(by have := unhide l4; omega), by simp⟩
          obtain ⟨b, o, he, hcl⟩ := e4 k s hs
          cases he
          have hsz := hide (sizes_take x4 k s hs)
          clear hs
          go_wp2
          all_goals try (go_ret; exact TextPost.no)
          go_round
          case rel => exact ⟨k + 1, m + s.size, by omega, by go_num, by go_num, by omega, by omega, by have h1 := unhide hmq; have h2 := unhide hsz; simp only [Hid]; omega⟩
          case measure => simp [intOf]; omega
        · have hfull : Hid (m = m3 + (n4 + sizes x4)) := by
            have h1 := unhide hmq
            have h2 := unhide l4
            rw [List.take_of_length_le (by omega)] at h1
            simp only [Hid]; omega
          clear hmq
          go_wp2
          all_goals try (go_ret; exact TextPost.no)
          go_ret
          refine ⟨true, rfl, fun _ => ?_, rfl⟩
          have r3 := unhide l3
          have r4 := unhide l4
          have g3 := unhide hfull3
          have g4 := unhide hfull
          omega

def ListPost (w : World) (e : Ending) (w' : World) : Prop := ∃ r : Int, e = .returned (.int .i64 r) ∧ -1 ≤ r ∧ r ≤ 1048576 ∧ w' = w

set_option maxRecDepth 100000 in
set_option maxHeartbeats 4000000 in
theorem listBytes_any (a : Option Addr) (n c : Nat) (xs : List ByteArray) (w : World) (h : StrS w (.slice a n c) xs) (hn0 : n ≤ 1048576) : Calls Tryf.prog 32 #[.slice a n c] w (ListPost w) := by
  obtain ⟨q3, _, _, e3⟩ := h.some_cases
  have l3 := hide q3
  clear h q3
  go_enter Tryf.func32, Tryf.ntmps32
  go_wp2
  all_goals try (go_ret; exact ⟨-1, rfl, by omega, by omega, rfl⟩)
  go_loop [3, 4] (fun z i => ∃ k m : Nat, k ≤ n ∧ i = .int .i64 k ∧ z = .int .i64 m ∧ m ≤ 1048576) (fun _ i => n - (intOf i).toNat)
  case atStart => exact ⟨0, 16 * n, Nat.zero_le _, rfl, by go_num, by omega⟩
  case round =>
    obtain ⟨k, m, hk, rfl, rfl, hm⟩ := hrel
    by_cases hlt : k < n
    · obtain ⟨s, hs⟩ : ∃ s, xs[k]? = some s := ⟨xs[k]'(by have := unhide l3; omega), by simp⟩
      obtain ⟨b, o, he, hcl⟩ := e3 k s hs
      cases he
      clear hs
      go_wp2
      all_goals try (go_ret; exact ⟨-1, rfl, by omega, by omega, rfl⟩)
      go_round
      case rel => exact ⟨k + 1, m + s.size, by omega, by go_num, by go_num, by omega⟩
      case measure => simp [intOf]; omega
    · go_wp2
      go_ret
      exact ⟨m, rfl, by omega, by omega, rfl⟩

def AnyBool (w : World) (e : Ending) (w' : World) : Prop := ∃ b : Bool, e = .returned (.bool b) ∧ w' = w

set_option maxRecDepth 100000 in
set_option maxHeartbeats 4000000 in
theorem tooBig_any (tx nm : ByteArray) (a3 a4 : Option Addr) (n3 n4 c3 c4 : Nat) (x3 x4 : List ByteArray) (w : World) (h3 : StrS w (.slice a3 n3 c3) x3) (h4 : StrS w (.slice a4 n4 c4) x4) (hn3 : n3 ≤ 1048576) (hn4 : n4 ≤ 1048576) (ht : tx.size ≤ 1048576) (hm : nm.size ≤ 1048576) :
    Calls Tryf.prog 9 #[.string tx, .slice a3 n3 c3, .slice a4 n4 c4, .string nm] w (AnyBool w) := by
  have H3 := hide (listBytes_any a3 n3 c3 x3 w h3 hn3)
  have H4 := hide (listBytes_any a4 n4 c4 x4 w h4 hn4)
  clear h3 h4
  go_enter Tryf.func9, Tryf.ntmps9
  go_wp2_with fail
  refine (unhide H3).mono ?_
  rintro e w' ⟨r3, rfl, hr1, hr2, hw⟩
  replace hw := hw.symm
  subst hw
  clear H3
  go_wp2_with fail
  refine (unhide H4).mono ?_
  rintro e w' ⟨r4, rfl, hs1, hs2, hw⟩
  replace hw := hw.symm
  subst hw
  clear H4
  by_cases h3 : r3 < 0
  · go_wp2
    all_goals go_ret
    all_goals exact ⟨_, rfl, rfl⟩
  · by_cases h4 : r4 < 0
    · go_wp2
      all_goals go_ret
      all_goals exact ⟨_, rfl, rfl⟩
    · go_wp2
      all_goals go_ret
      all_goals exact ⟨_, rfl, rfl⟩
end Go.Proofs.Qxb6612546aFmt
