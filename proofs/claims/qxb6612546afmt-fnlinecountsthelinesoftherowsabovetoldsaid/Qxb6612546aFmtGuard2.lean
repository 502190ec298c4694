import Derived.Test.Qxb6612546aFmtEnc2
import Derived.Test.Qxb6612546aFmtGuard
namespace Go.Proofs.Qxb6612546aFmt
open Go.RowKit

/-- The rows' lengths and bytes. -/
def tot (xss : List (List ByteArray)) : Nat := (xss.map fun r => r.length + sizes r).sum

theorem tot_take (xss : List (List ByteArray)) (k : Nat) (r : List ByteArray) (h : xss[k]? = some r) : tot (xss.take (k + 1)) = tot (xss.take k) + (r.length + sizes r) := by
  obtain ⟨hk, rfl⟩ := List.getElem?_eq_some_iff.1 h
  unfold tot
  rw [List.take_succ_eq_append_getElem hk, List.map_append, List.sum_append]
  simp

/-- What the guard on the total length says. -/
def RowsPost (xs : List ByteArray) (xss : List (List ByteArray)) (w : World) (e : Ending) (w' : World) : Prop :=
  ∃ b : Bool, e = .returned (.bool b) ∧ (b = true → xs.length + sizes xs + xss.length + tot xss ≤ 1048576) ∧ w' = w

theorem RowsPost.no {xs : List ByteArray} {xss : List (List ByteArray)} {w : World} : RowsPost xs xss w (.returned (.bool false)) w := ⟨false, rfl, (by intro h; cases h), rfl⟩

set_option maxRecDepth 100000 in
set_option maxHeartbeats 4000000 in
theorem bytesGives (a1 a2 : Option Addr) (n1 n2 c1 c2 : Nat) (xs : List ByteArray) (xss : List (List ByteArray)) (w : World) (h1 : StrS w (.slice a1 n1 c1) xs) (h2 : RowsS w (.slice a2 n2 c2) xss) :
    Calls Tryf.prog 19 #[.slice a1 n1 c1, .slice a2 n2 c2] w (RowsPost xs xss w) := by
  obtain ⟨q1, _, _, e1⟩ := h1.some_cases
  obtain ⟨q2, e2⟩ := h2.cells
  have l1 := hide q1
  have l2 := hide q2
  have e2' := hide e2
  clear h1 h2 q1 q2 e2
  go_enter Tryf.func19, Tryf.ntmps19
  go_wp2
  all_goals try (go_ret; exact RowsPost.no)
  go_loop [5, 6] (fun z i => ∃ k m : Nat, k ≤ n1 ∧ i = .int .i64 k ∧ z = .int .i64 m ∧ m ≤ 1048576 ∧ n1 ≤ 1048576 ∧ Hid (m = n1 + sizes (xs.take k))) (fun _ i => n1 - (intOf i).toNat)
  case atStart => first | exact ⟨0, n1, Nat.zero_le _, rfl, rfl, by omega, by omega, rfl⟩ | exact ⟨0, _, Nat.zero_le _, rfl, by go_num, by omega, by omega, by simp [Hid, sizes]⟩
  case round =>
    obtain ⟨k, m, hk, rfl, rfl, hm, hn, hmq⟩ := hrel
    by_cases hlt : k < n1
    · obtain ⟨s, hs⟩ : ∃ s, xs[k]? = some s := ⟨xs[k]'(by have := unhide l1; omega), by simp⟩
      obtain ⟨b, o, he, hcl⟩ := e1 k s hs
      cases he
      have hsz := hide (sizes_take xs k s hs)
      clear hs
      go_wp2
      all_goals try (go_ret; exact RowsPost.no)
      go_round
      case rel => exact ⟨k + 1, m + s.size, by omega, by go_num, by go_num, by omega, by omega, by have h1 := unhide hmq; have h2 := unhide hsz; simp only [Hid]; omega⟩
      case measure => simp [intOf]; omega
    · have hfull : Hid (m = n1 + sizes xs) := by
        have h1 := unhide hmq
        have h2 := unhide l1
        rw [List.take_of_length_le (by omega)] at h1
        exact h1
      clear hmq e1
      obtain ⟨m1, hm1⟩ : ∃ q : Nat, q = m := ⟨_, rfl⟩
      subst hm1
      go_wp2
      all_goals try (go_ret; exact RowsPost.no)
      go_loop [5, 7] (fun z i => ∃ k m : Nat, k ≤ n2 ∧ i = .int .i64 k ∧ z = .int .i64 m ∧ m ≤ 1048576 ∧ n2 ≤ 1048576 ∧ Hid (m = m1 + n2 + tot (xss.take k))) (fun _ i => n2 - (intOf i).toNat)
      case atStart => first | exact ⟨0, m1 + n2, Nat.zero_le _, rfl, rfl, by omega, by omega, by simp [Hid, tot]⟩ | exact ⟨0, m1 + n2, Nat.zero_le _, rfl, by go_num, by omega, by omega, by simp [Hid, tot]⟩
      case round =>
        obtain ⟨k, m, hk, rfl, rfl, hm, hn2, hmq⟩ := hrel
        by_cases hlt2 : k < n2
        · obtain ⟨r, hr⟩ : ∃ r, xss[k]? = some r := ⟨xss[k]'(by have := unhide l2; omega), by simp⟩
          obtain ⟨b, o, u, d, he, hcl, hS⟩ := unhide e2' k r hr
          cases he
          have hsz := hide (tot_take xss k r hr)
          have hcells := hide hS.some_cases.2.2.2
          clear hr hS
          obtain ⟨rl, hrl⟩ : ∃ q, q = r.length := ⟨_, rfl⟩
          rw [← hrl] at hcl
          have hrl' := hide hrl
          clear hrl
          go_wp2
          all_goals try (go_ret; exact RowsPost.no)
          go_loop [5, 8] (fun z i => ∃ j q : Nat, j ≤ rl ∧ i = .int .i64 j ∧ z = .int .i64 q ∧ q ≤ 1048576 ∧ rl ≤ 1048576 ∧ Hid (q = m + rl + sizes (r.take j))) (fun _ i => rl - (intOf i).toNat)
          case atStart => first | exact ⟨0, m + rl, Nat.zero_le _, rfl, rfl, by omega, by omega, by simp [Hid, sizes]⟩ | exact ⟨0, m + rl, Nat.zero_le _, rfl, by go_num, by omega, by omega, by simp [Hid, sizes]⟩
          case round =>
            obtain ⟨j, q, hj, rfl, rfl, hq, hrb, hqq⟩ := hrel
            by_cases hlt3 : j < rl
            · obtain ⟨s, hs⟩ : ∃ s, r[j]? = some s := ⟨r[j]'(by have := unhide hrl'; omega), by simp⟩
              obtain ⟨b2, o2, he, hcl2⟩ := unhide hcells j s hs
              cases he
              have hsz2 := hide (sizes_take r j s hs)
              clear hs
              go_wp2
              all_goals try (go_ret; exact RowsPost.no)
              go_round
              case rel => exact ⟨j + 1, q + s.size, by omega, by go_num, by go_num, by omega, by omega, by have h1 := unhide hqq; have h2 := unhide hsz2; simp only [Hid]; omega⟩
              case measure => simp [intOf]; omega
            · have hfull2 : Hid (q = m1 + n2 + tot (xss.take (k + 1))) := by
                have h1 := unhide hqq
                have h2 := unhide hrl'
                have h3 := unhide hmq
                have h4 := unhide hsz
                rw [List.take_of_length_le (by omega)] at h1
                simp only [Hid]
                omega
              clear hqq hcells
              go_wp2
              go_round
              case rel => exact ⟨k + 1, q, by omega, by go_num, rfl, by omega, by omega, hfull2⟩
              case measure => simp [intOf]; omega
        · have hfull2 : Hid (m = n1 + sizes xs + n2 + tot xss) := by
            have h1 := unhide hmq
            have h2 := unhide l2
            have h3 := unhide hfull
            rw [List.take_of_length_le (by omega)] at h1
            simp only [Hid]
            omega
          clear hmq
          go_wp2
          go_ret
          exact ⟨true, rfl, fun _ => by have := unhide hfull2; have := unhide l1; have := unhide l2; omega, rfl⟩

set_option maxRecDepth 100000 in
set_option maxHeartbeats 4000000 in
theorem bytesCounts (a1 a2 : Option Addr) (n1 n2 c1 c2 : Nat) (xs : List ByteArray) (xss : List (List ByteArray)) (w : World) (h1 : StrS w (.slice a1 n1 c1) xs) (h2 : RowsS w (.slice a2 n2 c2) xss) :
    Calls Tryf.prog 30 #[.slice a1 n1 c1, .slice a2 n2 c2] w (RowsPost xs xss w) := by
  obtain ⟨q1, _, _, e1⟩ := h1.some_cases
  obtain ⟨q2, e2⟩ := h2.cells
  have l1 := hide q1
  have l2 := hide q2
  have e2' := hide e2
  clear h1 h2 q1 q2 e2
  go_enter Tryf.func30, Tryf.ntmps30
  go_wp2
  all_goals try (go_ret; exact RowsPost.no)
  go_loop [5, 6] (fun z i => ∃ k m : Nat, k ≤ n1 ∧ i = .int .i64 k ∧ z = .int .i64 m ∧ m ≤ 1048576 ∧ n1 ≤ 1048576 ∧ Hid (m = n1 + sizes (xs.take k))) (fun _ i => n1 - (intOf i).toNat)
  case atStart => first | exact ⟨0, n1, Nat.zero_le _, rfl, rfl, by omega, by omega, rfl⟩ | exact ⟨0, _, Nat.zero_le _, rfl, by go_num, by omega, by omega, by simp [Hid, sizes]⟩
  case round =>
    obtain ⟨k, m, hk, rfl, rfl, hm, hn, hmq⟩ := hrel
    by_cases hlt : k < n1
    · obtain ⟨s, hs⟩ : ∃ s, xs[k]? = some s := ⟨xs[k]'(by have := unhide l1; omega), by simp⟩
      obtain ⟨b, o, he, hcl⟩ := e1 k s hs
      cases he
      have hsz := hide (sizes_take xs k s hs)
      clear hs
      go_wp2
      all_goals try (go_ret; exact RowsPost.no)
      go_round
      case rel => exact ⟨k + 1, m + s.size, by omega, by go_num, by go_num, by omega, by omega, by have h1 := unhide hmq; have h2 := unhide hsz; simp only [Hid]; omega⟩
      case measure => simp [intOf]; omega
    · have hfull : Hid (m = n1 + sizes xs) := by
        have h1 := unhide hmq
        have h2 := unhide l1
        rw [List.take_of_length_le (by omega)] at h1
        exact h1
      clear hmq e1
      obtain ⟨m1, hm1⟩ : ∃ q : Nat, q = m := ⟨_, rfl⟩
      subst hm1
      go_wp2
      all_goals try (go_ret; exact RowsPost.no)
      go_loop [5, 7] (fun z i => ∃ k m : Nat, k ≤ n2 ∧ i = .int .i64 k ∧ z = .int .i64 m ∧ m ≤ 1048576 ∧ n2 ≤ 1048576 ∧ Hid (m = m1 + n2 + tot (xss.take k))) (fun _ i => n2 - (intOf i).toNat)
      case atStart => first | exact ⟨0, m1 + n2, Nat.zero_le _, rfl, rfl, by omega, by omega, by simp [Hid, tot]⟩ | exact ⟨0, m1 + n2, Nat.zero_le _, rfl, by go_num, by omega, by omega, by simp [Hid, tot]⟩
      case round =>
        obtain ⟨k, m, hk, rfl, rfl, hm, hn2, hmq⟩ := hrel
        by_cases hlt2 : k < n2
        · obtain ⟨r, hr⟩ : ∃ r, xss[k]? = some r := ⟨xss[k]'(by have := unhide l2; omega), by simp⟩
          obtain ⟨b, o, u, d, he, hcl, hS⟩ := unhide e2' k r hr
          cases he
          have hsz := hide (tot_take xss k r hr)
          have hcells := hide hS.some_cases.2.2.2
          clear hr hS
          obtain ⟨rl, hrl⟩ : ∃ q, q = r.length := ⟨_, rfl⟩
          rw [← hrl] at hcl
          have hrl' := hide hrl
          clear hrl
          go_wp2
          all_goals try (go_ret; exact RowsPost.no)
          go_loop [5, 8] (fun z i => ∃ j q : Nat, j ≤ rl ∧ i = .int .i64 j ∧ z = .int .i64 q ∧ q ≤ 1048576 ∧ rl ≤ 1048576 ∧ Hid (q = m + rl + sizes (r.take j))) (fun _ i => rl - (intOf i).toNat)
          case atStart => first | exact ⟨0, m + rl, Nat.zero_le _, rfl, rfl, by omega, by omega, by simp [Hid, sizes]⟩ | exact ⟨0, m + rl, Nat.zero_le _, rfl, by go_num, by omega, by omega, by simp [Hid, sizes]⟩
          case round =>
            obtain ⟨j, q, hj, rfl, rfl, hq, hrb, hqq⟩ := hrel
            by_cases hlt3 : j < rl
            · obtain ⟨s, hs⟩ : ∃ s, r[j]? = some s := ⟨r[j]'(by have := unhide hrl'; omega), by simp⟩
              obtain ⟨b2, o2, he, hcl2⟩ := unhide hcells j s hs
              cases he
              have hsz2 := hide (sizes_take r j s hs)
              clear hs
              go_wp2
              all_goals try (go_ret; exact RowsPost.no)
              go_round
              case rel => exact ⟨j + 1, q + s.size, by omega, by go_num, by go_num, by omega, by omega, by have h1 := unhide hqq; have h2 := unhide hsz2; simp only [Hid]; omega⟩
              case measure => simp [intOf]; omega
            · have hfull2 : Hid (q = m1 + n2 + tot (xss.take (k + 1))) := by
                have h1 := unhide hqq
                have h2 := unhide hrl'
                have h3 := unhide hmq
                have h4 := unhide hsz
                rw [List.take_of_length_le (by omega)] at h1
                simp only [Hid]
                omega
              clear hqq hcells
              go_wp2
              go_round
              case rel => exact ⟨k + 1, q, by omega, by go_num, rfl, by omega, by omega, hfull2⟩
              case measure => simp [intOf]; omega
        · have hfull2 : Hid (m = n1 + sizes xs + n2 + tot xss) := by
            have h1 := unhide hmq
            have h2 := unhide l2
            have h3 := unhide hfull
            rw [List.take_of_length_le (by omega)] at h1
            simp only [Hid]
            omega
          clear hmq
          go_wp2
          go_ret
          exact ⟨true, rfl, fun _ => by have := unhide hfull2; have := unhide l1; have := unhide l2; omega, rfl⟩

set_option maxRecDepth 100000 in
set_option maxHeartbeats 4000000 in
theorem rowsBytes_any (a2 : Option Addr) (n2 c2 : Nat) (xss : List (List ByteArray)) (w : World) (h2 : RowsS w (.slice a2 n2 c2) xss) (hb : ∀ r ∈ xss, r.length ≤ 1048576) (hn : n2 ≤ 1048576) :
    Calls Tryf.prog 40 #[.slice a2 n2 c2] w (ListPost w) := by
  obtain ⟨q2, e2⟩ := h2.cells
  have l2 := hide q2
  have e2' := hide e2
  have hb' := hide hb
  clear h2 q2 e2 hb
  go_enter Tryf.func40, Tryf.ntmps40
  go_wp2
  all_goals try (go_ret; exact ⟨-1, rfl, by omega, by omega, rfl⟩)
  go_loopw [3, 4] (fun z i wr => ∃ k m : Nat, k ≤ n2 ∧ i = .int .i64 k ∧ z = .int .i64 m ∧ m ≤ 1048576 ∧ wr = w) (fun _ i _ => n2 - (intOf i).toNat)
  case atStart => first | exact ⟨0, 24 * n2, Nat.zero_le _, rfl, by go_num, by omega, rfl⟩
  case round =>
    obtain ⟨k, m, hk, rfl, rfl, hm, hw⟩ := hrel
    replace hw := hw.symm
    subst hw
    by_cases hlt : k < n2
    · obtain ⟨r, hr⟩ : ∃ r, xss[k]? = some r := ⟨xss[k]'(by have := unhide l2; omega), by simp⟩
      obtain ⟨b, o, u, d, he, hcl, hS⟩ := unhide e2' k r hr
      cases he
      have HL := hide (listBytes_any u r.length d r w hS (unhide hb' r (List.mem_of_getElem? hr)))
      clear hr hS
      go_wp2_with fail
      refine (unhide HL).mono ?_
      rintro e w' ⟨q, rfl, hq1, hq2, hw⟩
      replace hw := hw.symm
      subst hw
      clear HL
      by_cases hq : q < 0
      · go_wp2
        all_goals try (go_ret; exact ⟨-1, rfl, by omega, by omega, rfl⟩)
      · obtain ⟨qn, rfl⟩ : ∃ qn : Nat, q = qn := ⟨q.toNat, by omega⟩
        go_wp2
        all_goals try (go_ret; exact ⟨-1, rfl, by omega, by omega, rfl⟩)
        go_roundw
        case rel => exact ⟨k + 1, m + qn, by omega, by go_num, by go_num, by omega, by first | rfl | simp⟩
        case measure => simp [intOf]; omega
    · go_wp2
      go_ret
      exact ⟨m, rfl, by omega, by omega, rfl⟩

set_option maxRecDepth 100000 in
set_option maxHeartbeats 4000000 in
theorem tooBig2_any (a1 a2 : Option Addr) (n1 n2 c1 c2 : Nat) (xs : List ByteArray) (xss : List (List ByteArray)) (w : World) (h1 : StrS w (.slice a1 n1 c1) xs) (h2 : RowsS w (.slice a2 n2 c2) xss) (hn1 : n1 ≤ 1048576) (hb : ∀ r ∈ xss, r.length ≤ 1048576) (hn2 : n2 ≤ 1048576) :
    Calls Tryf.prog 20 #[.slice a1 n1 c1, .slice a2 n2 c2] w (AnyBool w) := by
  have H3 := hide (listBytes_any a1 n1 c1 xs w h1 hn1)
  have H4 := hide (rowsBytes_any a2 n2 c2 xss w h2 hb hn2)
  clear h1 h2 hb
  go_enter Tryf.func20, Tryf.ntmps20
  go_wp2_with fail
  refine (unhide H3).mono ?_
  rintro e w' ⟨r3, rfl, hr1, hr2, hw⟩
  replace hw := hw.symm
  subst hw
  clear H3
  go_wp2_with fail
  refine (unhide H4).mono ?_
  rintro e w' ⟨r4, rfl, hs1, hs2, hw⟩
  replace hw := hw.symm
  subst hw
  clear H4
  by_cases h3 : r3 < 0
  · go_wp2
    all_goals go_ret
    all_goals exact ⟨_, rfl, rfl⟩
  · by_cases h4 : r4 < 0
    · go_wp2
      all_goals go_ret
      all_goals exact ⟨_, rfl, rfl⟩
    · go_wp2
      all_goals go_ret
      all_goals exact ⟨_, rfl, rfl⟩
end Go.Proofs.Qxb6612546aFmt
