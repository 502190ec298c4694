import Derived.Test.Qxb6612546aFmtHdr
namespace Go.Proofs.Qxb6612546aFmt
open Go.RowKit

/-- What zzAccepts leaves. -/
def AccPost (hdr req opt : List ByteArray) (w : World) (e : Ending) (w' : World) : Prop := ∃ b : Bool, e = .returned (.bool b) ∧ (b = true ↔ Acc hdr req opt) ∧ Below w.heap.size w w'

theorem mem_take {xs : List ByteArray} {i : Nat} {a : ByteArray} (h : xs[i]? = some a) (t : ByteArray) : t ∈ xs.take (i + 1) ↔ t = a ∨ t ∈ xs.take i := by
  obtain ⟨hi, rfl⟩ := List.getElem?_eq_some_iff.1 h
  rw [List.take_succ_eq_append_getElem hi, List.mem_append, List.mem_singleton, or_comm]

set_option maxRecDepth 100000 in
set_option maxHeartbeats 2000000 in
theorem accepts_any (a0 a1 a2 : Option Addr) (n0 n1 n2 c0 c1 c2 : Nat) (hdr req opt : List ByteArray) (w : World) (h0 : StrS w (.slice a0 n0 c0) hdr) (h1 : StrS w (.slice a1 n1 c1) req) (h2 : StrS w (.slice a2 n2 c2) opt)
    (hn0 : n0 ≤ 2097152) (hn : n1 + n2 ≤ 2097152) : Calls Tryf.prog 13 #[.slice a0 n0 c0, .slice a1 n1 c1, .slice a2 n2 c2] w (AccPost hdr req opt w) := by
  obtain ⟨i0, hi, hz0, hz1, hz2⟩ := info_parts Tryf.info9
  have h0' := hide h0
  have h1' := hide h1
  have h2' := hide h2
  have l0 := hide h0.some_cases.1
  have l1 := hide h1.some_cases.1
  have l2 := hide h2.some_cases.1
  have hb2 : i0.bytes * (n1 + n2) ≤ 281474976710656 := by rw [hz2]; omega
  have hmx : n1 + n2 ≤ maxLen := by unfold maxLen; omega
  clear h0 h1 h2
  go_enter Tryf.func13, Tryf.ntmps13
  go_wp2_with (at_make; refine wpList_make_own _ rfl _ _ 22 rfl w.heap.size 9 i0 (.string ⟨#[]⟩) 1 Tryf.underlying22 hi hz0 hz1 _ _ _ (n1 + n2) rfl rfl (by omega) hb2 hmx (Nat.le_refl _) ?_)
  intro w1 hown hgrow
  have hB1 : Below w.heap.size w w1 := (Below.refl _ w).grown hgrow (Nat.le_refl _) (by simp)
  have hown1 : Hid (w1.ownsRow w.heap.size 9 1 (.slice (some ⟨w.heap.size, 0, none⟩) 0 (n1 + n2)) 0 (([] : List ByteArray).map Value.string)) := hown
  have hs1 := hide ((unhide h1').below hB1)
  have hB1' := hide hB1
  have hz1' := hB1.size
  clear hown hgrow hB1 hb2 hmx
  go_wp2_with (at_builtin; refine wpList_append_strs _ rfl _ _ rfl w.heap.size _ 0 [] req rfl (unhide hown1) _ _ _ rfl (unhide hs1) (by omega) hz1' ?_)
  intro v2 w2 hown hgrow _
  have hB2 : Below w.heap.size w w2 := (unhide hB1').grown hgrow hz1' (fun k hk => ((unhide hown1).lt k hk).1)
  obtain ⟨q2, hown, hq2⟩ : ∃ q, w2.ownsRow w.heap.size 9 1 v2 q (req.map Value.string) ∧ q ≤ n1 := ⟨_, by simpa using hown, by omega⟩
  have hown2 := hide hown
  have hs2 := hide ((unhide h2').below hB2)
  have hB2' := hide hB2
  have hz2' := hB2.size
  clear hown hgrow hB2 hown1 hs1 hB1'
  go_wp2_with (at_builtin; refine wpList_append_strs _ rfl _ _ rfl w.heap.size _ q2 req opt rfl (unhide hown2) _ _ _ rfl (unhide hs2) (by omega) hz2' ?_)
  intro v3 w3 hown hgrow _
  have hB3 : Below w.heap.size w w3 := (unhide hB2').grown hgrow hz2' (fun k hk => ((unhide hown2).lt k hk).1)
  have hs3 : StrS w3 v3 (req ++ opt) := strs_own (by simpa using hown)
  obtain ⟨a3, c3, rfl⟩ : ∃ a3 c3, v3 = .slice a3 (n1 + n2) c3 := by
    obtain ⟨a3, c3, e, _⟩ := hs3
    exact ⟨a3, c3, by rw [e, List.length_append, unhide l1, unhide l2]⟩
  have HS := hide (sort_any (n1 + n2) a3 (n1 + n2) c3 (req ++ opt) w3 (Nat.le_refl _) hs3 hn)
  have hB3' := hide hB3
  clear hown hgrow hB3 hown2 hs2 hB2' hs3
  go_wp2_with fail
  refine (unhide HS).mono ?_
  rintro en w4 ⟨v4, kn, rfl, hkn, hperm, hsrt, hb4⟩
  have hmem : Hid (∀ t, isInS t kn = true ↔ t ∈ req ∨ t ∈ opt) := fun t => by rw [isInS_iff, hperm.mem_iff, List.mem_append]
  have hB4 : Below w.heap.size w w4 := (unhide hB3').trans (hb4.mono (unhide hB3').size)
  obtain ⟨a4, c4, rfl⟩ : ∃ a4 c4, v4 = .slice a4 (n1 + n2) c4 := by
    obtain ⟨a4, c4, e, _⟩ := hkn
    exact ⟨a4, c4, by rw [e, hperm.length_eq, List.length_append, unhide l1, unhide l2]⟩
  have hB4' := hide hB4
  have HH : Hid (∀ t, Calls Tryf.prog 36 #[.slice a4 (n1 + n2) c4, .string t] w4 fun e w' => e = .returned (.bool (isInS t kn)) ∧ w' = w4) := fun t => has_any a4 (n1 + n2) c4 kn t w4 hkn hsrt hn
  have h04 := hide ((unhide h0').below hB4)
  clear HS hkn hperm hsrt hb4 hB4 hB3'
  go_wp2
  go_loopw [9] (fun iv wr => ∃ i : Nat, i ≤ n0 ∧ iv = .int .i64 i ∧ wr = w4 ∧ ∀ t ∈ hdr.take i, t ∈ req ∨ t ∈ opt) (fun iv _ => n0 - (intOf iv).toNat)
  case atStart => exact ⟨0, Nat.zero_le _, rfl, rfl, by simp⟩
  case round =>
    obtain ⟨i, hin, rfl, hw, hk⟩ := hrel
    replace hw := hw.symm
    subst hw
    have hk' := hide hk
    clear hk
    by_cases hlt : i < n0
    · obtain ⟨x, hx⟩ : ∃ x, hdr[i]? = some x := ⟨hdr[i]'(by have := unhide l0; omega), by simp⟩
      obtain ⟨b1, o1, rfl, cx⟩ := (unhide h04).some_cases.2.2.2 i x hx
      have hx' := hide hx
      have HX := hide (unhide HH x)
      clear hx
      cases hin : isInS x kn with
      | true =>
        have hin' := hide hin
        rw [hin] at HX
        clear hin
        go_wp2_with fail
        refine (unhide HX).mono ?_
        rintro en w5 ⟨rfl, hw⟩
        replace hw := hw.symm
        subst hw
        clear HX
        go_wp2
        go_roundw
        case rel => exact ⟨i + 1, by omega, by go_num, by first | rfl | simp, fun t ht => by
          rcases (mem_take (unhide hx') t).1 ht with rfl | h
          · exact (unhide hmem _).1 (unhide hin')
          · exact unhide hk' t h⟩
        case measure => simp [intOf]; omega
      | false =>
        have hno : Hid (¬ Acc hdr req opt) := fun ha => by
          have := (unhide hmem x).2 (ha.1 x (List.mem_of_getElem? (unhide hx')))
          rw [hin] at this; cases this
        rw [hin] at HX
        clear hin
        go_wp2_with fail
        refine (unhide HX).mono ?_
        rintro en w5 ⟨rfl, hw⟩
        replace hw := hw.symm
        subst hw
        clear HX
        go_wp2
        go_ret
        exact ⟨false, rfl, by simp [unhide hno], unhide hB4'⟩
    · have hall : Hid (∀ t ∈ hdr, t ∈ req ∨ t ∈ opt) := fun t ht => unhide hk' t (by rw [List.take_of_length_le (by have := unhide l0; omega)]; exact ht)
      have HD := hide (distinct_any a0 n0 c0 hdr w4 (unhide h04) hn0)
      clear HH hk'
      go_wp2_with fail
      refine (unhide HD).mono ?_
      rintro en w5 ⟨rfl, hb5⟩
      have hB5 : Below w.heap.size w w5 := (unhide hB4').trans (hb5.mono (unhide hB4').size)
      have hB5' := hide hB5
      have h05 := hide ((unhide h0').below hB5)
      clear HD hb5 hB5 hB4'
      by_cases hnd : hdr.Nodup
      · have HS := hide (sort_any n0 a0 n0 c0 hdr w5 (Nat.le_refl _) (unhide h05) hn0)
        have hnd' := hide hnd
        clear hnd
        have hdt : decide hdr.Nodup = true := by simpa using unhide hnd'
        go_wp2_with fail
        refine (unhide HS).mono ?_
        rintro en w6 ⟨v6, nm, rfl, hnm, hperm, hsrt, hb6⟩
        have hmem6 : Hid (∀ t, isInS t nm = true ↔ t ∈ hdr) := fun t => by rw [isInS_iff, hperm.mem_iff]
        have hB6 : Below w.heap.size w w6 := (unhide hB5').trans (hb6.mono (unhide hB5').size)
        obtain ⟨a6, c6, rfl⟩ : ∃ a6 c6, v6 = .slice a6 n0 c6 := by
          obtain ⟨a6, c6, e, _⟩ := hnm
          exact ⟨a6, c6, by rw [e, hperm.length_eq, unhide l0]⟩
        have HH : Hid (∀ t, Calls Tryf.prog 36 #[.slice a6 n0 c6, .string t] w6 fun e w' => e = .returned (.bool (isInS t nm)) ∧ w' = w6) := fun t => has_any a6 n0 c6 nm t w6 hnm hsrt hn0
        have h16 := hide ((unhide h1').below hB6)
        have hB6' := hide hB6
        clear HS hnm hperm hsrt hb6 hB6 hB5' hdt
        go_wp2
        go_loopw [11] (fun iv wr => ∃ i : Nat, i ≤ n1 ∧ iv = .int .i64 i ∧ wr = w6 ∧ ∀ t ∈ req.take i, t ∈ hdr) (fun iv _ => n1 - (intOf iv).toNat)
        case atStart => exact ⟨0, Nat.zero_le _, rfl, rfl, by simp⟩
        case round =>
          obtain ⟨j, hjn, rfl, hw, hk⟩ := hrel
          replace hw := hw.symm
          subst hw
          have hk' := hide hk
          clear hk
          by_cases hlt2 : j < n1
          · obtain ⟨x, hx⟩ : ∃ x, req[j]? = some x := ⟨req[j]'(by have := unhide l1; omega), by simp⟩
            obtain ⟨b1, o1, rfl, cx⟩ := (unhide h16).some_cases.2.2.2 j x hx
            have hx' := hide hx
            have HX := hide (unhide HH x)
            clear hx
            cases hin : isInS x nm with
            | true =>
              have hin' := hide hin
              rw [hin] at HX
              clear hin
              go_wp2_with fail
              refine (unhide HX).mono ?_
              rintro en w7 ⟨rfl, hw⟩
              replace hw := hw.symm
              subst hw
              clear HX
              go_wp2
              go_roundw
              case rel => exact ⟨j + 1, by omega, by go_num, by first | rfl | simp, fun t ht => by
                rcases (mem_take (unhide hx') t).1 ht with rfl | h
                · exact (unhide hmem6 _).1 (unhide hin')
                · exact unhide hk' t h⟩
              case measure => simp [intOf]; omega
            | false =>
              have hno : Hid (¬ Acc hdr req opt) := fun ha => by
                have := (unhide hmem6 x).2 (ha.2.2 x (List.mem_of_getElem? (unhide hx')))
                rw [hin] at this; cases this
              rw [hin] at HX
              clear hin
              go_wp2_with fail
              refine (unhide HX).mono ?_
              rintro en w7 ⟨rfl, hw⟩
              replace hw := hw.symm
              subst hw
              clear HX
              go_wp2
              go_ret
              exact ⟨false, rfl, by simp [unhide hno], unhide hB6'⟩
          · have hyes : Hid (Acc hdr req opt) := ⟨unhide hall, unhide hnd', fun t ht => unhide hk' t (by rw [List.take_of_length_le (by have := unhide l1; omega)]; exact ht)⟩
            clear HH
            go_wp2
            go_ret
            exact ⟨true, rfl, by simp [unhide hyes], unhide hB6'⟩
      · have hno : Hid (¬ Acc hdr req opt) := fun ha => hnd ha.2.1
        have hdt : decide hdr.Nodup = false := by simpa using hnd
        clear hnd
        go_wp2
        go_ret
        exact ⟨false, rfl, by simp [unhide hno], unhide hB5'⟩
end Go.Proofs.Qxb6612546aFmt
