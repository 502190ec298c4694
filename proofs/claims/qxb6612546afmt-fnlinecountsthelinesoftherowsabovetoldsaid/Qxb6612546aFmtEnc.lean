import Derived.Test.Qxb6612546aFmtEncP
import Derived.Test.Qxb6612546aFmtHdr
namespace Go.Proofs.Qxb6612546aFmt
open Go.RowKit

/-- The strings' bytes. -/
def bytesOf (xs : List ByteArray) : List (List UInt8) := xs.map fun s => s.data.toList

theorem bytesOf_length (xs : List ByteArray) : (bytesOf xs).length = xs.length := by simp [bytesOf]
theorem bytesOf_at {xs : List ByteArray} {i : Nat} {x : ByteArray} (h : xs[i]? = some x) : (bytesOf xs).take (i + 1) = (bytesOf xs).take i ++ [x.data.toList] := by
  obtain ⟨hi, rfl⟩ := List.getElem?_eq_some_iff.1 h
  rw [List.take_succ_eq_append_getElem (by rw [bytesOf_length]; exact hi)]
  simp [bytesOf]

set_option maxRecDepth 100000 in
set_option maxHeartbeats 1000000 in
/-- zzHasCRLF. -/
theorem hasCRLF_any (s : ByteArray) (w : World) (hs : s.size ≤ 1048576) : Calls Tryf.prog 22 #[.string s] w fun e w' => e = .returned (.bool (Cs.crlf s.data.toList)) ∧ w' = w := by
  go_enter Tryf.func22, Tryf.ntmps22
  go_wp2
  go_loopw [3] (fun iv wr => ∃ i : Nat, i ≤ s.size ∧ iv = .int .i64 i ∧ wr = w ∧ Cs.crlf s.data.toList = Cs.crlf (s.data.toList.drop i)) (fun iv _ => s.size - (intOf iv).toNat)
  case atStart => exact ⟨0, Nat.zero_le _, rfl, rfl, by simp⟩
  case round =>
    obtain ⟨i, hi, rfl, hw, hc⟩ := hrel
    replace hw := hw.symm
    subst hw
    by_cases hlt : i + 1 < s.size
    · have hi0 : i < s.size := by omega
      have hd : s.data.toList.drop i = s[i] :: s[i + 1] :: s.data.toList.drop (i + 2) := by rw [drop_byte s i hi0, drop_byte s (i + 1) hlt]
      by_cases h13 : s[i] = 13
      · by_cases h10 : s[i + 1] = 10
        · have hr : Hid (Cs.crlf s.data.toList = true) := by rw [Hid, hc, hd, Cs.crlf, h13, h10]; rfl
          clear hc hd
          go_wp2
          go_ret
          exact ⟨by rw [unhide hr]; rfl, rfl⟩
        · have hr : Hid (Cs.crlf s.data.toList = Cs.crlf (s.data.toList.drop (i + 1))) := by
            rw [Hid, hc, hd, Cs.crlf, ← drop_byte s (i + 1) hlt]; simp [h10]
          have h10' : ¬ ((s[i + 1].toNat : Int) = 10) := fun e => h10 (byte_eq _ 10 e)
          clear hc hd
          go_wp2
          go_roundw
          case rel => exact ⟨i + 1, by omega, by go_num, by first | rfl | simp, unhide hr⟩
          case measure => simp [intOf]; omega
      · have hr : Hid (Cs.crlf s.data.toList = Cs.crlf (s.data.toList.drop (i + 1))) := by
          rw [Hid, hc, hd, Cs.crlf, ← drop_byte s (i + 1) hlt]; simp [h13]
        have h13' : ¬ ((s[i].toNat : Int) = 13) := fun e => h13 (byte_eq _ 13 e)
        clear hc hd
        go_wp2
        go_roundw
        case rel => exact ⟨i + 1, by omega, by go_num, by first | rfl | simp, unhide hr⟩
        case measure => simp [intOf]; omega
    · have hr : Hid (Cs.crlf s.data.toList = false) := by
        rw [Hid, hc]
        by_cases h0 : i < s.size
        · rw [drop_byte s i h0, drop_end s (i + 1) (by omega)]; rfl
        · rw [drop_end s i (by omega)]; rfl
      clear hc
      go_wp2
      go_ret
      exact ⟨by rw [unhide hr]; rfl, rfl⟩

/-- The bytes written so far. -/
def AR (base : Nat) (w : World) (l : List UInt8) (v : Value) (wr : World) : Prop := wr.ownsRow base 5 1 v l.length (l.map byteV) ∧ Below base w wr ∧ base ≤ wr.heap.size

theorem AR.step {base : Nat} {w wr w2 : World} {v v' : Value} {l : List UInt8} (c : UInt8) (h : AR base w l v wr) (o : Obj)
    (hown : w2.ownsRow base 5 1 v' (l.length + 1) (l.map byteV ++ [byteV c])) (hg : (wr.alloc o).grownBy w2 v.ownBlock) : AR base w (l ++ [c]) v' w2 := by
  have hsz : (wr.alloc o).heap.size = wr.heap.size + 1 := size_alloc' _ _
  have hgs := hg.size
  have hb := h.2.2
  refine ⟨by rw [List.length_append, List.map_append]; exact hown, ?_, by omega⟩
  exact (h.2.1.alloc h.2.2 o).grown hg (by omega) (fun k hk => (h.1.lt k hk).1)

/-- What zzAppendRow leaves. -/
def ARPost (base : Nat) (w : World) (l : List UInt8) (e : Ending) (w' : World) : Prop := ∃ v, e = .returned v ∧ AR base w l v w'

set_option maxRecDepth 100000 in
set_option maxHeartbeats 2000000 in
theorem appendRow_any (base : Nat) (v : Value) (l0 : List UInt8) (a : Option Addr) (n c : Nat) (xs : List ByteArray) (w : World) (hv : w.ownsRow base 5 1 v l0.length (l0.map byteV)) (hbw : base ≤ w.heap.size)
    (hrow : ∀ wr, Below base w wr → StrS wr (.slice a n c) xs) (hz : ∀ t ∈ xs, t.size ≤ 1048576) (hn : n ≤ 1048576) (hlen : l0.length + Cs.wid (bytesOf xs) ≤ 8388608) :
    Calls Tryf.prog 41 #[v, .slice a n c] w (ARPost base w (l0 ++ Cs.encRow (bytesOf xs))) := by
  obtain ⟨i5, hi5, hi50, hi51, hi52⟩ := info_parts Tryf.info5
  obtain ⟨a0, c0, rfl⟩ : ∃ a0 c0, v = .slice a0 l0.length c0 := by
    rcases hv.2 with ⟨h0, h1⟩ | ⟨g, cap, cur, h0, _⟩
    · exact ⟨none, 0, by rw [h0, h1]⟩
    · exact ⟨_, _, h0⟩
  have hl := hide (hrow w (Below.refl _ _)).some_cases.1
  have hst : Hid (AR base w l0 (.slice a0 l0.length c0) w) := ⟨hv, Below.refl _ _, hbw⟩
  have hrow' := hide hrow
  have hz' := hide hz
  have hlen' := hide hlen
  clear hv hrow hz hlen hbw
  go_enter Tryf.func41, Tryf.ntmps41
  go_wp2
  go_loopw [0, 5] (fun bv iv wr => ∃ i : Nat, i ≤ n ∧ iv = .int .i64 i ∧ AR base w (l0 ++ Cs.encFs ((bytesOf xs).take i)) bv wr) (fun _ iv _ => n - (intOf iv).toNat)
  case atStart => exact ⟨0, Nat.zero_le _, rfl, by simpa [Cs.encFs] using unhide hst⟩
  case round =>
    clear hst
    obtain ⟨i, hi, rfl, hA⟩ := hrel
    obtain ⟨L, hL⟩ : ∃ L, L = l0 ++ Cs.encFs ((bytesOf xs).take i) := ⟨_, rfl⟩
    rw [← hL] at hA
    have hLb : L.length ≤ 8388608 := by
      have h1 := Cs.encFs_length ((bytesOf xs).take i)
      have h2 := Cs.wid_take (bytesOf xs) i
      have := unhide hlen'
      rw [hL, List.length_append]; omega
    have hL' := hide hL
    have hA' := hide hA
    have hrw := unhide hrow' wr hA.2.1
    clear hL hA
    by_cases hlt : i < n
    · obtain ⟨x, hx⟩ : ∃ x, xs[i]? = some x := ⟨xs[i]'(by have := unhide hl; omega), by simp⟩
      obtain ⟨b1, o1, rfl, _⟩ := hrw.some_cases.2.2.2 i x hx
      have hcx : Hid (∀ wq, Below base w wq → wq.cell? ⟨b1, o1 + i, none⟩ = some (.string x)) := fun wq hb => by
        obtain ⟨_, _, e, hc⟩ := (unhide hrow' wq hb).some_cases.2.2.2 i x hx
        cases e
        exact hc
      have hxz := unhide hz' x (List.mem_of_getElem? hx)
      have hnext : Hid (∀ M : List UInt8, M = L ++ (if i = 0 then [] else [44]) ++ [34] ++ Cs.dbl x.data.toList ++ [34] → M = l0 ++ Cs.encFs ((bytesOf xs).take (i + 1))) := fun M hM => by
        have e0 : ((bytesOf xs).take i = []) ↔ i = 0 := by
          rw [List.take_eq_nil_iff]
          have := unhide hl
          constructor
          · rintro (h | h)
            · exact h
            · exfalso
              have h2 := congrArg List.length h
              rw [bytesOf_length, List.length_nil] at h2
              omega
          · exact .inl
        rw [hM, bytesOf_at hx, Cs.encFs_snoc, unhide hL', Cs.encF]
        by_cases h0 : i = 0
        · rw [if_pos h0, if_pos (e0.2 h0)]; simp
        · rw [if_neg h0, if_neg (fun e => h0 (e0.1 e))]; simp
      clear hrw hx hL'
      go_upto_if 14 with fail
      go_cut [0] from 14 to 17 (fun v wx => ∃ L1, AR base w L1 v wx ∧ L1 = L ++ (if i = 0 then [] else [44]))
      case first =>
        by_cases h0 : i = 0
        · subst h0
          go_wp2
          go_meet
          case rel => exact ⟨L, unhide hA', by simp⟩
        · have h0I : (0 : Int) < i := by omega
          go_wp2_with (at_builtin; refine wpList_append_where _ rfl _ _ 29 rfl base 5 i5 (.int .u8 0) 1 1 Tryf.underlying29 hi5 hi50 hi51 hi52 rfl (by decide) _ _ _ rfl ((unhide hA').1.alloc _) ⟨wr.heap.size, 0, none⟩ 1 1 [byteV 44] rfl rfl (cell_one_new _ _ _) (by simp [Value.oneCell', byteV]) (by unfold maxLen; omega) (by omega) (by rw [size_alloc']; have := (unhide hA').2.2; omega) ?_)
          intro v2 w2 hown hgrow _ _
          have hn2 := hide (AR.step 44 (unhide hA') _ hown hgrow)
          clear hown hgrow
          go_wp2
          go_meet
          case rel => exact ⟨_, unhide hn2, by rw [if_neg h0]⟩
      case rest =>
        obtain ⟨w1, rfl⟩ : ∃ q : World, q = wc := ⟨_, rfl⟩
        obtain ⟨L1, hA1, hL1⟩ := hcut
        have hA1' := hide hA1
        have hL1b : L1.length ≤ 8388609 := by rw [hL1, List.length_append]; split <;> simp <;> omega
        have hL1' := hide hL1
        clear hA1 hL1 hA'
        go_wp2_with (at_builtin; refine wpList_append_where _ rfl _ _ 29 rfl base 5 i5 (.int .u8 0) 1 1 Tryf.underlying29 hi5 hi50 hi51 hi52 rfl (by decide) _ _ _ rfl ((unhide hA1').1.alloc _) ⟨w1.heap.size, 0, none⟩ 1 1 [byteV 34] rfl rfl (cell_one_new _ _ _) (by simp [Value.oneCell', byteV]) (by unfold maxLen; omega) (by omega) (by rw [size_alloc']; have := (unhide hA1').2.2; omega) ?_)
        intro v2 w2 hown hgrow _ _
        have hA2 := AR.step 34 (unhide hA1') _ hown hgrow
        obtain ⟨L2, hL2⟩ : ∃ L2, L2 = L1 ++ [34] := ⟨_, rfl⟩
        rw [← hL2] at hA2
        have hL2b : L2.length ≤ 8388610 := by rw [hL2, List.length_append]; simp; omega
        have hL2' := hide hL2
        have hA2' := hide hA2
        clear hown hgrow hA1' hL2 hA2
        go_wp2
        go_loopw [0, 6] (fun bv jv wq => ∃ j : Nat, j ≤ x.size ∧ jv = .int .i64 j ∧ AR base w (L2 ++ Cs.dbl (x.data.toList.take j)) bv wq) (fun _ jv _ => x.size - (intOf jv).toNat)
        case atStart => exact ⟨0, Nat.zero_le _, rfl, by simpa [Cs.dbl] using unhide hA2'⟩
        case round =>
          clear hA2'
          obtain ⟨j, hj, rfl, hA3⟩ := hrel
          obtain ⟨wq, rfl⟩ : ∃ q : World, q = wr := ⟨_, rfl⟩
          obtain ⟨L3, hL3⟩ : ∃ L3, L3 = L2 ++ Cs.dbl (x.data.toList.take j) := ⟨_, rfl⟩
          rw [← hL3] at hA3
          have hL3b : L3.length ≤ 16777216 := by
            have h1 := Cs.dbl_length (x.data.toList.take j)
            have h2 : (x.data.toList.take j).length ≤ x.size := by simp; omega
            rw [hL3, List.length_append]; omega
          have cx := unhide hcx wq hA3.2.1
          have hL3' := hide hL3
          have hA3' := hide hA3
          clear hL3 hA3
          by_cases hjl : j < x.size
          · have hst : x.data.toList.take (j + 1) = x.data.toList.take j ++ [x[j]] := by
              rw [List.take_succ_eq_append_getElem (by simpa using hjl)]; rfl
            by_cases h34 : x[j] = 34
            · have hfin : Hid (L3 ++ [34] ++ [34] = L2 ++ Cs.dbl (x.data.toList.take (j + 1))) := by
                rw [Hid, hst, h34, Cs.dbl_append, unhide hL3', Cs.dbl_quote, Cs.dbl]; simp
              clear hst
              go_wp2_with (at_builtin; refine wpList_append_where _ rfl _ _ 29 rfl base 5 i5 (.int .u8 0) 1 1 Tryf.underlying29 hi5 hi50 hi51 hi52 rfl (by decide) _ _ _ rfl ((unhide hA3').1.alloc _) ⟨wq.heap.size, 0, none⟩ 1 1 [byteV 34] rfl rfl (cell_one_new _ _ _) (by simp [Value.oneCell', byteV]) (by unfold maxLen; omega) (by omega) (by rw [size_alloc']; have := (unhide hA3').2.2; omega) ?_)
              intro v4 w4 hown hgrow _ _
              have hA4 := AR.step 34 (unhide hA3') _ hown hgrow
              obtain ⟨L4, hL4⟩ : ∃ L4, L4 = L3 ++ [34] := ⟨_, rfl⟩
              rw [← hL4] at hA4
              have hL4b : L4.length ≤ 16777217 := by rw [hL4, List.length_append]; simp; omega
              rw [← hL4] at hfin
              have cx4 := unhide hcx w4 hA4.2.1
              have hA4' := hide hA4
              clear hown hgrow hA4 hL4 cx
              go_wp2_with (at_builtin; refine wpList_append_where _ rfl _ _ 29 rfl base 5 i5 (.int .u8 0) 1 1 Tryf.underlying29 hi5 hi50 hi51 hi52 rfl (by decide) _ _ _ rfl ((unhide hA4').1.alloc _) ⟨w4.heap.size, 0, none⟩ 1 1 [byteV 34] rfl rfl (cell_one_new _ _ _) (by simp [Value.oneCell', byteV]) (by unfold maxLen; omega) (by omega) (by rw [size_alloc']; have := (unhide hA4').2.2; omega) ?_)
              intro v5 w5 hown hgrow _ _
              have hA5 := AR.step 34 (unhide hA4') _ hown hgrow
              rw [unhide hfin] at hA5
              have hA5' := hide hA5
              clear hown hgrow hA5
              go_wp2
              go_roundw
              case rel => exact ⟨j + 1, by omega, by go_num, unhide hA5'⟩
              case measure => simp [intOf]; omega
            · have hfin : Hid (L3 ++ [x[j]] = L2 ++ Cs.dbl (x.data.toList.take (j + 1))) := by
                rw [Hid, hst, Cs.dbl_append, unhide hL3', Cs.dbl_cons _ _ h34, Cs.dbl]; simp
              have h34' : ¬ ((x[j].toNat : Int) = 34) := fun e => h34 (byte_eq _ 34 e)
              clear hst
              go_wp2_with (at_builtin; refine wpList_append_where _ rfl _ _ 29 rfl base 5 i5 (.int .u8 0) 1 1 Tryf.underlying29 hi5 hi50 hi51 hi52 rfl (by decide) _ _ _ rfl ((unhide hA3').1.alloc _) ⟨wq.heap.size, 0, none⟩ 1 1 [byteV x[j]] rfl rfl (cell_one_new _ _ _) (by simp [Value.oneCell', byteV]) (by unfold maxLen; omega) (by omega) (by rw [size_alloc']; have := (unhide hA3').2.2; omega) ?_)
              intro v4 w4 hown hgrow _ _
              have hA4 := AR.step x[j] (unhide hA3') _ hown hgrow
              rw [unhide hfin] at hA4
              have hA4' := hide hA4
              clear hown hgrow hA4
              go_wp2
              go_roundw
              case rel => exact ⟨j + 1, by omega, by go_num, unhide hA4'⟩
              case measure => simp [intOf]; omega
          · have hfin : Hid (L3 ++ [34] = l0 ++ Cs.encFs ((bytesOf xs).take (i + 1))) := by
              refine unhide hnext _ ?_
              rw [unhide hL3', unhide hL2', unhide hL1', List.take_of_length_le (by simp; omega)]
            go_wp2_with (at_builtin; refine wpList_append_where _ rfl _ _ 29 rfl base 5 i5 (.int .u8 0) 1 1 Tryf.underlying29 hi5 hi50 hi51 hi52 rfl (by decide) _ _ _ rfl ((unhide hA3').1.alloc _) ⟨wq.heap.size, 0, none⟩ 1 1 [byteV 34] rfl rfl (cell_one_new _ _ _) (by simp [Value.oneCell', byteV]) (by unfold maxLen; omega) (by omega) (by rw [size_alloc']; have := (unhide hA3').2.2; omega) ?_)
            intro v4 w4 hown hgrow _ _
            have hA4 := AR.step 34 (unhide hA3') _ hown hgrow
            rw [unhide hfin] at hA4
            have hA4' := hide hA4
            clear hown hgrow hA4
            go_wp2
            go_roundw
            case rel => exact ⟨i + 1, by omega, by go_num, unhide hA4'⟩
            case measure => simp [intOf]; omega
    · have hfin : Hid (L ++ [10] = l0 ++ Cs.encRow (bytesOf xs)) := by
        rw [Hid, unhide hL', List.take_of_length_le (by rw [bytesOf_length]; have := unhide hl; omega), Cs.encRow, List.append_assoc]
      clear hrw
      go_wp2_with (at_builtin; refine wpList_append_where _ rfl _ _ 29 rfl base 5 i5 (.int .u8 0) 1 1 Tryf.underlying29 hi5 hi50 hi51 hi52 rfl (by decide) _ _ _ rfl ((unhide hA').1.alloc _) ⟨wr.heap.size, 0, none⟩ 1 1 [byteV 10] rfl rfl (cell_one_new _ _ _) (by simp [Value.oneCell', byteV]) (by unfold maxLen; omega) (by omega) (by rw [size_alloc']; have := (unhide hA').2.2; omega) ?_)
      intro v4 w4 hown hgrow _ _
      have hA4 := AR.step 10 (unhide hA') _ hown hgrow
      rw [unhide hfin] at hA4
      have hA4' := hide hA4
      clear hown hgrow hA4
      go_wp2
      go_ret
      exact ⟨_, rfl, unhide hA4'⟩
end Go.Proofs.Qxb6612546aFmt
