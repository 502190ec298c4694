import Derived.Test.Qxb6612546aFmtEnc2
namespace Go.Proofs.Qxb6612546aFmt
open Go.RowKit

/-- What zzRoundTripNames says. -/
def NmsPost (xs : List ByteArray) (w : World) (e : Ending) (w' : World) : Prop :=
  ∃ b : Bool, e = .returned (.bool b) ∧ (b = true → xs ≠ [] ∧ xs.Nodup ∧ (∀ x, xs[0]? = some x → Lib.hasPrefix x.data.toList [239, 187, 191] = false) ∧ ∀ x ∈ xs, Cs.crlf x.data.toList = false) ∧ Below w.heap.size w w'

set_option maxRecDepth 100000 in
set_option maxHeartbeats 2000000 in
theorem names_any (a : Option Addr) (n c : Nat) (xs : List ByteArray) (w : World) (h : StrS w (.slice a n c) xs) (hn : n ≤ 1048576) (hz : ∀ t ∈ xs, t.size ≤ 1048576) : Calls Tryf.prog 21 #[.slice a n c] w (NmsPost xs w) := by
  have hl := h.some_cases.1
  by_cases h0 : n = 0
  · subst h0
    clear h
    go_enter Tryf.func21, Tryf.ntmps21
    go_wp2
    go_ret
    exact ⟨false, rfl, (fun h => by cases h), Below.refl _ _⟩
  · have HD := hide (distinct_any a n c xs w h (by omega))
    obtain ⟨x0, hx0⟩ : ∃ x, xs[0]? = some x := ⟨xs[0]'(by omega), by simp⟩
    obtain ⟨b0, o0, rfl, cx0⟩ := h.some_cases.2.2.2 0 x0 hx0
    have h0I : ((n : Int) == 0) = false := by rw [beq_eq_false_iff_ne]; omega
    have h0J : 0 < n := by omega
    have h' := hide h
    have hl' := hide hl
    have hz' := hide hz
    have hx0' := hide hx0
    have hcx0 := World.block_lt_of_cell? w _ cx0
    have hne : Hid (xs ≠ []) := by rintro rfl; simp at hl; omega
    clear h hl hz hx0
    go_enter Tryf.func21, Tryf.ntmps21
    go_wp2_with fail
    refine (unhide HD).mono ?_
    rintro en w1 ⟨rfl, hb1⟩
    have hb1' := hide hb1
    by_cases hnd : xs.Nodup
    · have hdt : decide xs.Nodup = true := by simpa using hnd
      have hnd' := hide hnd
      have cx1 : w1.cell? ⟨b0, o0, none⟩ = some (.string x0) := by rw [hb1.cell hcx0]; exact cx0
      have HB := hide (hasBOM_any x0 w1)
      clear HD hb1 hnd
      go_wp2_with fail
      refine (unhide HB).mono ?_
      rintro en w2 ⟨rfl, hw⟩
      replace hw := hw.symm
      subst hw
      clear HB
      cases hbm : Lib.hasPrefix x0.data.toList [239, 187, 191] with
      | true =>
        clear cx1
        go_wp2
        go_ret
        exact ⟨false, rfl, (fun h => by cases h), unhide hb1'⟩
      | false =>
        have hbm' := hide hbm
        clear hbm cx1
        go_wp2
        go_loopw [3] (fun iv wr => ∃ i : Nat, i ≤ n ∧ iv = .int .i64 i ∧ wr = w1 ∧ ∀ x ∈ xs.take i, Cs.crlf x.data.toList = false) (fun iv _ => n - (intOf iv).toNat)
        case atStart => exact ⟨0, Nat.zero_le _, rfl, rfl, by simp⟩
        case round =>
          obtain ⟨i, hi, rfl, hw, hk⟩ := hrel
          replace hw := hw.symm
          subst hw
          have hk' := hide hk
          clear hk
          by_cases hlt : i < n
          · obtain ⟨x, hx⟩ : ∃ x, xs[i]? = some x := ⟨xs[i]'(by have := unhide hl'; omega), by simp⟩
            obtain ⟨_, _, e, cx⟩ := ((unhide h').below (unhide hb1')).some_cases.2.2.2 i x hx
            cases e
            have HC := hide (hasCRLF_any x w1 (unhide hz' x (List.mem_of_getElem? hx)))
            have hx' := hide hx
            clear hx
            cases hcr : Cs.crlf x.data.toList with
            | true =>
              rw [hcr] at HC
              clear hcr
              go_wp2_with fail
              refine (unhide HC).mono ?_
              rintro en w3 ⟨rfl, hw⟩
              replace hw := hw.symm
              subst hw
              clear HC
              go_wp2
              go_ret
              exact ⟨false, rfl, (fun h => by cases h), unhide hb1'⟩
            | false =>
              rw [hcr] at HC
              have hcr' := hide hcr
              clear hcr
              go_wp2_with fail
              refine (unhide HC).mono ?_
              rintro en w3 ⟨rfl, hw⟩
              replace hw := hw.symm
              subst hw
              clear HC
              go_wp2
              go_roundw
              case rel => exact ⟨i + 1, by omega, by go_num, by first | rfl | simp, fun y hy => by
                obtain ⟨hi2, e⟩ := List.getElem?_eq_some_iff.1 (unhide hx')
                rw [List.take_succ_eq_append_getElem hi2, List.mem_append, List.mem_singleton] at hy
                rcases hy with hy | rfl
                · exact unhide hk' y hy
                · rw [e]; exact unhide hcr'⟩
              case measure => simp [intOf]; omega
          · have hall : Hid (∀ x ∈ xs, Cs.crlf x.data.toList = false) := fun x hx => unhide hk' x (by rw [List.take_of_length_le (by have := unhide hl'; omega)]; exact hx)
            go_wp2
            go_ret
            refine ⟨true, rfl, fun _ => ⟨unhide hne, unhide hnd', fun x hx => ?_, unhide hall⟩, unhide hb1'⟩
            rw [unhide hx0'] at hx
            simp at hx
            rw [← hx]; exact unhide hbm'
    · have hdt : decide xs.Nodup = false := by simpa using hnd
      clear HD hb1 hnd
      go_wp2
      go_ret
      exact ⟨false, rfl, (fun h => by cases h), unhide hb1'⟩

theorem lfs_take (s : ByteArray) (j : Nat) (hj : j < s.size) : Cs.lfs (s.data.toList.take (j + 1)) = Cs.lfs (s.data.toList.take j) + (if s[j] = 10 then 1 else 0) := by
  rw [List.take_succ_eq_append_getElem (by simpa using hj), Cs.lfs_append, Cs.lfs_cons]
  simp [Cs.lfs]
  rfl

theorem lfs_le (l : List UInt8) : Cs.lfs l ≤ l.length := List.count_le_length

set_option maxRecDepth 100000 in
set_option maxHeartbeats 2000000 in
/-- zzNewlines. -/
theorem newlines_any (a : Option Addr) (n c : Nat) (xs : List ByteArray) (w : World) (h : StrS w (.slice a n c) xs) (hn : n ≤ 1048576) (hz : n + sizes xs ≤ 1048576) :
    Calls Tryf.prog 31 #[.slice a n c] w fun e w' => e = .returned (.int .i64 (Cs.nls (bytesOf xs))) ∧ w' = w := by
  obtain ⟨hl, _, _, hcell⟩ := h.some_cases
  have hl' := hide hl
  have hcell' := hide hcell
  have hz' := hide hz
  clear h hl hcell hz
  have hnb : Hid (∀ i, Cs.nls ((bytesOf xs).take i) ≤ sizes (xs.take i)) := fun i => by
    rw [bytesOf, ← List.map_take]
    generalize xs.take i = ys
    induction ys with
    | nil => simp [Cs.nls, sizes]
    | cons y ys ih =>
      have := lfs_le y.data.toList
      simp only [List.map_cons, Cs.nls_cons, sizes, List.sum_cons] at ih ⊢
      simp at this
      omega
  have hsz : Hid (∀ i, sizes (xs.take i) ≤ sizes xs) := fun i => by
    have : sizes xs = sizes (xs.take i) + sizes (xs.drop i) := by
      unfold sizes
      rw [← List.sum_append, ← List.map_append, List.take_append_drop]
    omega
  go_enter Tryf.func31, Tryf.ntmps31
  go_wp2
  go_loopw [3, 4] (fun mv iv wr => ∃ i m : Nat, i ≤ n ∧ iv = .int .i64 i ∧ mv = .int .i64 m ∧ wr = w ∧ m = Cs.nls ((bytesOf xs).take i)) (fun _ iv _ => n - (intOf iv).toNat)
  case atStart => exact ⟨0, 0, Nat.zero_le _, rfl, rfl, rfl, by simp [Cs.nls]⟩
  case round =>
    obtain ⟨i, m, hi, rfl, rfl, hw, hm⟩ := hrel
    replace hw := hw.symm
    subst hw
    have hmb : m ≤ 1048576 := by have h1 := unhide hnb i; have h2 := unhide hsz i; have := unhide hz'; omega
    have hm' := hide hm
    clear hm
    by_cases hlt : i < n
    · obtain ⟨x, hx⟩ : ∃ x, xs[i]? = some x := ⟨xs[i]'(by have := unhide hl'; omega), by simp⟩
      obtain ⟨b, o, rfl, cx⟩ := unhide hcell' i x hx
      have hnx : Hid (Cs.nls ((bytesOf xs).take (i + 1)) = m + Cs.lfs x.data.toList) := by
        rw [Hid, bytesOf_at hx, unhide hm', Cs.nls, Cs.nls, List.map_append, List.sum_append]
        simp
      have hxz : m + x.size ≤ 2097152 := by
        have := sizes_take xs i x hx
        have h2 := unhide hsz (i + 1)
        have := unhide hz'
        omega
      clear hx
      go_wp2
      go_loopw [3, 5] (fun mv jv wq => ∃ j q : Nat, j ≤ x.size ∧ jv = .int .i64 j ∧ mv = .int .i64 q ∧ wq = w ∧ q = m + Cs.lfs (x.data.toList.take j)) (fun _ jv _ => x.size - (intOf jv).toNat)
      case atStart => exact ⟨0, m, Nat.zero_le _, rfl, rfl, rfl, by simp [Cs.lfs]⟩
      case round =>
        obtain ⟨j, q, hj, rfl, rfl, hw, hq⟩ := hrel
        replace hw := hw.symm
        subst hw
        have hqb : q ≤ 2097152 := by
          have h1 := lfs_le (x.data.toList.take j)
          have h2 : (x.data.toList.take j).length ≤ x.size := by simp; omega
          omega
        have hq' := hide hq
        clear hq
        by_cases hjl : j < x.size
        · have hst := lfs_take x j hjl
          by_cases h10 : x[j] = 10
          · rw [if_pos h10] at hst
            have hst' := hide hst
            clear hst
            go_wp2
            go_roundw
            case rel => exact ⟨j + 1, q + 1, by omega, by go_num, by go_num, by first | rfl | simp, by have := unhide hq'; have := unhide hst'; omega⟩
            case measure => simp [intOf]; omega
          · rw [if_neg h10] at hst
            have h10' : ¬ ((x[j].toNat : Int) = 10) := fun e => h10 (byte_eq _ 10 e)
            have hst' := hide hst
            clear hst
            go_wp2
            go_roundw
            case rel => exact ⟨j + 1, q, by omega, by go_num, rfl, by first | rfl | simp, by have := unhide hq'; have := unhide hst'; omega⟩
            case measure => simp [intOf]; omega
        · have hfin : Hid (q = Cs.nls ((bytesOf xs).take (i + 1))) := by
            have h1 := unhide hq'
            rw [List.take_of_length_le (by simp; omega)] at h1
            rw [Hid, unhide hnx, h1]
          go_wp2
          go_roundw
          case rel => exact ⟨i + 1, q, by omega, by go_num, rfl, by first | rfl | simp, unhide hfin⟩
          case measure => simp [intOf]; omega
    · have hfin : Hid (m = Cs.nls (bytesOf xs)) := by
        have h1 := unhide hm'
        rw [List.take_of_length_le (by rw [bytesOf_length]; have := unhide hl'; omega)] at h1
        exact h1
      go_wp2
      go_ret
      exact ⟨by rw [← unhide hfin]; rfl, rfl⟩
end Go.Proofs.Qxb6612546aFmt
