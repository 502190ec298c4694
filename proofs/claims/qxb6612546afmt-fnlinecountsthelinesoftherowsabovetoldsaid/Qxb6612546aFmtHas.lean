import Derived.Test.Qxb6612546aFmtSort
namespace Go.Proofs.Qxb6612546aFmt
open Go.RowKit

/-- Does s stand in xs? -/
def isInS (s : ByteArray) (xs : List ByteArray) : Bool := xs.any fun t => decide (t = s)

theorem isInS_iff {s : ByteArray} {xs : List ByteArray} : isInS s xs = true ↔ s ∈ xs := by simp [isInS]

set_option maxRecDepth 100000 in
set_option maxHeartbeats 1000000 in
/-- zzHas: the binary search of a sorted list. -/
theorem has_any (a : Option Addr) (n c : Nat) (xs : List ByteArray) (x : ByteArray) (w : World) (hs : StrS w (.slice a n c) xs) (hsrt : Srt xs) (hn : n ≤ 2097152) :
    Calls Tryf.prog 36 #[.slice a n c, .string x] w fun e w' => e = .returned (.bool (isInS x xs)) ∧ w' = w := by
  obtain ⟨hl, _, _, hcell⟩ := hs.some_cases
  have hl' := hide hl
  have hsrt' := hide hsrt
  clear hs hl hsrt
  go_enter Tryf.func36, Tryf.ntmps36
  go_wp2
  go_loopw [5, 6] (fun lv hv wr => ∃ lo hi : Nat, lo ≤ hi ∧ hi ≤ n ∧ lv = .int .i64 lo ∧ hv = .int .i64 hi ∧ wr = w ∧ (∀ i y, i < lo → xs[i]? = some y → sLt y x = true) ∧ (∀ i y, hi ≤ i → xs[i]? = some y → sLt y x = false)) (fun lv hv _ => (intOf hv).toNat - (intOf lv).toNat)
  case atStart => exact ⟨0, n, Nat.zero_le _, Nat.le_refl _, rfl, rfl, rfl, by simp, fun i y h1 h2 => by have := (List.getElem?_eq_some_iff.1 h2).1; have := unhide hl'; omega⟩
  case round =>
    obtain ⟨lo, hi, hlh, hhn, rfl, rfl, hw, hlow, hup⟩ := hrel
    replace hw := hw.symm
    subst hw
    have hlow' := hide hlow
    have hup' := hide hup
    clear hlow hup
    by_cases hc : lo < hi
    · obtain ⟨m, hm⟩ : ∃ m, m = lo + (hi - lo) / 2 := ⟨_, rfl⟩
      have hm1 : lo ≤ m := by omega
      have hm2 : m < hi := by omega
      have hdiv : (lo : Int) + Int.tdiv ((hi : Int) - lo) 2 = (m : Int) := by rw [Int.tdiv_eq_ediv_of_nonneg (by omega)]; omega
      obtain ⟨y, hy⟩ : ∃ y, xs[m]? = some y := ⟨xs[m]'(by have := unhide hl'; omega), by simp⟩
      obtain ⟨b1, o1, rfl, cx⟩ := hcell m y hy
      have hy' := hide hy
      clear hm hy hcell
      by_cases hlt : sLt y x = true
      · have hlt' : Op.bytesLess y.toList x.toList = true := hlt
        have hlow2 : Hid (∀ i z, i < m + 1 → xs[i]? = some z → sLt z x = true) := fun i z hi hz => sLe_lt (srt_at (unhide hsrt') hz (unhide hy') (by omega)) hlt
        clear hlt
        go_wp2
        go_roundw
        case rel => exact ⟨m + 1, hi, by omega, by omega, by go_num, rfl, by simp, unhide hlow2, unhide hup'⟩
        case measure => simp [intOf]; omega
      · have hlt' : Op.bytesLess y.toList x.toList = false := by simpa [sLt] using hlt
        have hup2 : Hid (∀ i z, m ≤ i → xs[i]? = some z → sLt z x = false) := fun i z hi hz => by
          cases h : sLt z x with
          | false => rfl
          | true => exact absurd (sLe_lt (srt_at (unhide hsrt') (unhide hy') hz hi) h) hlt
        clear hlt
        go_wp2
        go_roundw
        case rel => exact ⟨lo, m, by omega, by omega, rfl, rfl, by simp, unhide hlow', unhide hup2⟩
        case measure => simp [intOf]; omega
    · have hE : Hid (xs[lo]? = some x ↔ x ∈ xs) := has_law (unhide hsrt') (unhide hlow') (fun i y h1 h2 => unhide hup' i y (by omega) h2)
      clear hlow' hup'
      by_cases hln : lo < n
      · obtain ⟨y, hy⟩ : ∃ y, xs[lo]? = some y := ⟨xs[lo]'(by have := unhide hl'; omega), by simp⟩
        obtain ⟨b1, o1, rfl, cx⟩ := hcell lo y hy
        have hres : Hid ((y.toList == x.toList) = isInS x xs) := by
          rw [Hid, Bool.eq_iff_iff, isInS_iff, ← unhide hE, hy, beq_iff_eq, ByteArray.toList_eq, ByteArray.toList_eq, Option.some.injEq]
          exact ⟨fun e => ByteArray.ext (Array.ext' e), fun e => by rw [e]⟩
        clear hcell hy hE
        go_wp2
        go_ret
        exact ⟨congrArg (fun b => Ending.returned (.bool b)) (unhide hres), rfl⟩
      · have hres : Hid (isInS x xs = false) := by
          rw [Hid, Bool.eq_false_iff, Ne, isInS_iff, ← unhide hE]
          have := unhide hl'
          rw [List.getElem?_eq_none (by omega)]; simp
        clear hcell hE
        go_wp2
        go_ret
        exact ⟨congrArg (fun b => Ending.returned (.bool b)) (unhide hres).symm, rfl⟩

set_option maxRecDepth 100000 in
set_option maxHeartbeats 1000000 in
/-- zzDistinct: none twice. -/
theorem distinct_any (a : Option Addr) (n c : Nat) (xs : List ByteArray) (w : World) (hs : StrS w (.slice a n c) xs) (hn : n ≤ 2097152) :
    Calls Tryf.prog 37 #[.slice a n c] w fun e w' => e = .returned (.bool (decide xs.Nodup)) ∧ Below w.heap.size w w' := by
  have HC := hide (sort_any n a n c xs w (Nat.le_refl _) hs hn)
  have hl := hs.some_cases.1
  have hl' := hide hl
  clear hs hl
  go_enter Tryf.func37, Tryf.ntmps37
  go_wp2_with fail
  refine (unhide HC).mono ?_
  rintro en w1 ⟨v, ys, rfl, hsy, hp, hsr, hb⟩
  have hly : ys.length = n := by rw [hp.length_eq, unhide hl']
  obtain ⟨ay, cy, rfl⟩ : ∃ ay cy, v = .slice ay n cy := by obtain ⟨ay, cy, e, _⟩ := hsy; exact ⟨ay, cy, by rw [e, hly]⟩
  have hnd : Hid (xs.Nodup ↔ ys.Nodup) := hp.symm.nodup_iff
  have hcell := hsy.some_cases.2.2.2
  have hly' := hide hly
  have hsr' := hide hsr
  have hb' := hide hb
  clear HC hsy hp hsr hb hly
  go_wp2
  go_loopw [4] (fun iv wr => ∃ i m : Nat, 1 ≤ i ∧ iv = .int .i64 i ∧ i ≤ n + 1 ∧ wr = w1.drewN m ∧ (∀ k a b, k + 1 < i → ys[k]? = some a → ys[k + 1]? = some b → a ≠ b)) (fun iv _ => n + 1 - (intOf iv).toNat)
  case atStart => exact ⟨1, 0, Nat.le_refl _, rfl, by omega, rfl, fun k a b h => by omega⟩
  case round =>
    obtain ⟨i, m, hi1, rfl, hin, rfl, hd⟩ := hrel
    have hd' := hide hd
    clear hd
    by_cases hlt : i < n
    · obtain ⟨k, rfl⟩ : ∃ k, i = k + 1 := ⟨i - 1, by omega⟩
      obtain ⟨x, hx⟩ : ∃ x, ys[k]? = some x := ⟨ys[k]'(by have := unhide hly'; omega), by simp⟩
      obtain ⟨y, hy⟩ : ∃ y, ys[k + 1]? = some y := ⟨ys[k + 1]'(by have := unhide hly'; omega), by simp⟩
      obtain ⟨b1, o1, rfl, cx⟩ := hcell k x hx
      obtain ⟨_, _, e2, cy⟩ := hcell (k + 1) y hy
      cases e2
      have hx' := hide hx
      have hy' := hide hy
      clear hcell hx hy
      have hsub : ((k + 1 : Nat) : Int) - 1 = (k : Int) := by omega
      by_cases hxy : x = y
      · subst hxy
        have hno : Hid (¬ xs.Nodup) := fun h => not_nodup (unhide hx') (unhide hy') ((unhide hnd).1 h)
        go_wp2
        go_quiet (fail)
        go_wp2
        go_ret
        exact ⟨by simp [unhide hno], bdrew (bdrew (unhide hb'))⟩
      · have hyb : (y.toList == x.toList) = false := by
          rw [beq_eq_false_iff_ne]
          intro e
          rw [ByteArray.toList_eq, ByteArray.toList_eq] at e
          exact hxy (ByteArray.ext (Array.ext' e)).symm
        have hd2 : Hid (∀ q a b, q + 1 < k + 1 + 1 → ys[q]? = some a → ys[q + 1]? = some b → a ≠ b) := fun q a b hq ha hb => by
          rcases Nat.lt_or_ge q k with h | h
          · exact unhide hd' q a b (by omega) ha hb
          · have : q = k := by omega
            subst this
            rw [unhide hx'] at ha
            rw [unhide hy'] at hb
            simp at ha hb
            rw [← ha, ← hb]; exact hxy
        go_wp2
        go_quiet (fail)
        go_wp2
        go_roundw
        case rel => exact ⟨k + 1 + 1, _, by omega, by go_num, by omega, rfl, unhide hd2⟩
        case measure => simp [intOf]; omega
    · have hyes : Hid xs.Nodup := (unhide hnd).2 (nodup_srt (unhide hsr') (fun k a b ha hb => unhide hd' k a b (by have := (List.getElem?_eq_some_iff.1 hb).1; have := unhide hly'; omega) ha hb))
      go_wp2
      go_ret
      exact ⟨by simp [unhide hyes], bdrew (unhide hb')⟩
end Go.Proofs.Qxb6612546aFmt
