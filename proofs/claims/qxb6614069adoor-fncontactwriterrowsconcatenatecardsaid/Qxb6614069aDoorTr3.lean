import Derived.Test.Qxb6614069aDoorTr2
import Derived.Laws.IdiomStrings
namespace Go.Proofs.Qxb6614069aDoor
open Go.RowKit Go.Lib

/-- A list of bytes as a string. -/
def bstr (l : List UInt8) : ByteArray := ⟨l.toArray⟩

theorem bstr_size (l : List UInt8) : (bstr l).size = l.length := by show l.toArray.size = _; simp

/-- What Flush of a ContactWriter leaves: the buffer holds all. -/
theorem zzFlush_any (base : Nat) (w : World) (C b : Nat) (T : List UInt8) (h : CW base w C b T) (hT : T.length ≤ 1073741824) :
    Calls Tryd.prog 7 #[.pointer (some ⟨C, 0, none⟩)] w fun e w' => e = .returned .nilIface ∧ (∃ v, Bf w' b v T) ∧ Below base w w' := by
  obtain ⟨X, R, v, rv, O, Pd, hOP, hc⟩ := h
  have hC := Lib.lt_of_heap hc.c
  have hlo := hc.lo
  have c0 : w.cell? ⟨C, 0, none⟩ = some (.pointer (some ⟨X, 0, none⟩)) := by rw [Lib.cell_of_heap hc.c]; rfl
  have HF : Hid (Calls Tryd.prog 19 #[.pointer (some ⟨X, 0, none⟩)] w fun e w' => e = .returned .nilIface ∧ (∃ v, Bf w' b v T) ∧ Below base w w') := by
    refine (flush_any w X R b v O Pd hc.wr ?_).mono ?_
    · have := congrArg List.length hOP
      rw [List.length_append] at this
      omega
    · rintro e w' ⟨rfl, v', hW, hK, -⟩
      refine ⟨rfl, ⟨v', ?_⟩, hK.below (by omega) hlo.2⟩
      rw [← hOP]
      exact hW.bf
  clear hc hlo hOP
  go_enter Tryd.func7, Tryd.ntmps7
  go_wp2_with fail
  refine (unhide HF).mono ?_
  rintro e w' ⟨rfl, h1, h2⟩
  have h1' := hide h1
  have h2' := hide h2
  clear h1 h2
  go_wp2
  go_ret
  exact ⟨rfl, unhide h1', unhide h2'⟩

theorem zzText_any (w : World) (b : Nat) (v : Value) (T : List UInt8) (h : Bf w b v T) :
    Calls Tryd.prog 8 #[.pointer (some ⟨b, 0, none⟩)] w fun e w' => e = .returned (.string (bstr T)) ∧ ∃ n, w' = w.drewN n := by
  have HS : Hid (Calls Tryd.prog 20 #[.pointer (some ⟨b, 0, none⟩)] w fun e w' => e = .returned (.string (bstr T)) ∧ ∃ n, w' = w.drewN n) := Tryd.Buffer_String 0 b T w h.isBuffer
  obtain ⟨s, hs⟩ : ∃ s, s = bstr T := ⟨_, rfl⟩
  rw [← hs] at HS ⊢
  clear h hs
  go_enter Tryd.func8, Tryd.ntmps8
  go_wp2_with fail
  refine (unhide HS).mono ?_
  rintro e w' ⟨rfl, n, rfl⟩
  go_wp2
  go_ret
  exact ⟨rfl, _, rfl⟩

set_option maxRecDepth 100000 in
theorem hasPrefix_any (w : World) (s p : ByteArray) (h1 : p.size ≤ s.size) (h2 : s.extract 0 p.size = p) :
    Calls Tryd.prog 9 #[.string s, .string p] w fun e w' => e = .returned (.bool true) ∧ w' = w := by
  have i1 : (p.size : Int) ≤ (s.size : Int) := by omega
  go_enter Tryd.func9, Tryd.ntmps9
  go_wp2
  go_ret
  exact ⟨rfl, rfl⟩

set_option maxRecDepth 100000 in
theorem utoa_zero (w : World) : Calls Tryd.prog 13 #[.int .u64 0] w fun e w' => e = .returned (.string (bstr (decDigits 0))) ∧ w.grownBy w' none := by
  go_enter Tryd.func13, Tryd.ntmps13
  go_wp2
  go_ret
  exact ⟨by rw [decDigits_one (by decide)]; rfl, grownBy_refl _ _⟩

def zeros20 : Array Value := #[.int .u8 0, .int .u8 0, .int .u8 0, .int .u8 0, .int .u8 0, .int .u8 0, .int .u8 0, .int .u8 0, .int .u8 0, .int .u8 0, .int .u8 0, .int .u8 0, .int .u8 0, .int .u8 0, .int .u8 0, .int .u8 0, .int .u8 0, .int .u8 0, .int .u8 0, .int .u8 0]

theorem zeros20_at (i : Nat) (h : i < 20) : zeros20[i]? = some (.int .u8 0) := by
  have e : zeros20 = Array.replicate 20 (.int .u8 0) := rfl
  rw [e, Array.getElem?_replicate, if_pos h]

/-- The row of 20 bytes that trb1Utoa fills from the right. -/
structure Buf20 (w : World) (B : Nat) (f : Nat → UInt8) : Prop where
  cell : ∀ j, j < 20 → w.cell? ⟨B, j, none⟩ = some (byteV (f j))
  frz : ∀ j, w.frozen? ⟨B, j, none⟩ = false

theorem Buf20.set {w : World} {B : Nat} {f : Nat → UInt8} (h : Buf20 w B f) {i : Nat} (c : UInt8) : Buf20 (w.setCell ⟨B, i, none⟩ (byteV c)) B (upd f i c) where
  cell := fun j hj => by
    unfold upd
    by_cases e : j = i
    · subst e; rw [if_pos rfl]; exact World.cell?_setCell_same w _ _ (h.cell j hj)
    · rw [if_neg e, World.cell?_setCell_other w _ _ _ (addr_ne (Ne.symm e))]; exact h.cell j hj
  frz := fun j => by rw [World.frozen?_setCell]; exact h.frz j

set_option maxRecDepth 100000 in
set_option maxHeartbeats 2000000 in
theorem utoa_pos (w : World) (u : Nat) (hu : 1 ≤ u) (hu64 : u < 18446744073709551616) : Calls Tryd.prog 13 #[.int .u64 u] w fun e w' => e = .returned (.string (bstr (decDigits u))) ∧ w.grownBy w' none := by
  have h20 := nDigits_le20 u hu64
  have hu0 : ¬ ((u : Int) = 0) := by omega
  have hu0B : ((u : Int) == 0) = false := by simpa using hu0
  have hb0 : Hid (Buf20 (w.alloc (.cells zeros20 63)) w.heap.size (fun _ => 0)) := ⟨fun j hj => by
    rw [World.cell?_alloc_new, zeros20_at _ hj]; rfl, fun j => World.frozen?_alloc_new _ _ _ _⟩
  unfold zeros20 at hb0
  obtain ⟨s, hs⟩ : ∃ s, s = bstr (decDigits u) := ⟨_, rfl⟩
  rw [← hs]
  have hs' := hide hs
  clear hs
  go_enter Tryd.func13, Tryd.ntmps13
  go_wp2
  go_loopw [0, 4] (fun uv pv wr => ∃ i : Nat, i ≤ nDigits u ∧ uv = .int .u64 ((u / 10 ^ i : Nat) : Int) ∧ pv = .int .i64 ((20 - i : Nat) : Int) ∧ (∃ f, Buf20 wr w.heap.size f ∧ ∀ t, t < i → f (19 - t) = dg u t) ∧ w.grownBy wr none) (fun uv _ _ => (RowKit.intOf uv).toNat)
  case atStart =>
    exact ⟨0, Nat.zero_le _, by simp, rfl, ⟨_, unhide hb0, fun j hj => by omega⟩, World.grownBy_alloc _ _ _⟩
  case round =>
    clear hb0
    obtain ⟨i, hi, rfl, rfl, ⟨f, hB, hf⟩, hg⟩ := hrel
    obtain ⟨x, hx⟩ : ∃ x, x = u / 10 ^ i := ⟨_, rfl⟩
    rw [← hx]
    by_cases hpos : 0 < x
    · obtain ⟨q, hq⟩ : ∃ q, q = x / 10 := ⟨_, rfl⟩
      obtain ⟨r, hr⟩ : ∃ r, r = x % 10 := ⟨_, rfl⟩
      have hxv : x ≤ u := by rw [hx]; exact Nat.div_le_self _ _
      have eq1 : (x : Int) / 10 = (q : Int) := by omega
      have er1 : (x : Int) % 10 = (r : Int) := by omega
      have hr9 : r ≤ 9 := by omega
      have hlt : i < nDigits u := lt_nd_of_le (by
        rw [hx] at hpos
        exact (Nat.div_pos_iff.1 hpos).2)
      have hqv : Hid (q = u / 10 ^ (i + 1)) := by
        rw [Hid, hq, hx, Nat.div_div_eq_div_mul, ← Nat.pow_succ]
      have hdg : Hid (Value.int .u8 (48 + (r : Int)) = byteV (dg u i)) := by
        unfold Hid byteV
        rw [dg_toNat, hr, hx]
        congr 1
        try omega
      obtain ⟨k, hk⟩ : ∃ k, k = 19 - i := ⟨_, rfl⟩
      have ek : (((20 - i : Nat) : Int) - 1) = (k : Int) := by omega
      have hk20 : (k : Int) < 20 := by omega
      have ci := hB.cell k (by omega)
      have fi := hB.frz k
      have hq9 : q ≤ x := by omega
      have hB' := hide hB
      have hf' := hide hf
      have hg' := hide hg
      have hk' := hide hk
      have hposI : (0 : Int) < x := by omega
      clear hB hf hg hq hr hx hk
      go_wp2
      rw [unhide hdg]
      go_roundw
      case rel =>
        have hkk := unhide hk'
        refine ⟨i + 1, by omega, by rw [← unhide hqv], by congr 1; omega, ⟨_, (unhide hB').set (dg u i), fun j hj => ?_⟩, grownBy_then (unhide hg') (Lib.grownBy_setCell _ _ _ _) (.inr (by simp))⟩
        unfold upd
        by_cases e : j = i
        · rw [if_pos (by omega), e]
        · rw [if_neg (by omega)]; exact unhide hf' j (by omega)
      case measure => simp [RowKit.intOf]; omega
    · have hx0 : x = 0 := by omega
      have him : i = nDigits u := by
        have h2 : u < 10 ^ i := by
          rw [hx] at hx0
          rcases Nat.div_eq_zero_iff.1 hx0 with e | e
          · have := Nat.pow_pos (n := i) (by decide : 0 < 10); omega
          · exact e
        have := nd_le_of_lt hu h2
        omega
      subst him
      have hnp := nDigits_pos u
      have hconv : (convert 44 9 (.slice (some ⟨w.heap.size, 20 - nDigits u, none⟩) (nDigits u) (nDigits u))).run Tryd.prog wr = .ok (.string s) wr := by
        have h3 := run_convert_bytes_back (P := Tryd.prog) wr 44 9 5 ⟨w.heap.size, 20 - nDigits u, none⟩ (nDigits u) (decDigits u) Tryd.underlying44 Tryd.underlying5 Tryd.underlying9 (fun j hj => by
          rw [decDigits_length] at hj
          rw [Lib.addr_add, hB.cell _ (by omega)]
          have e1 := hf (nDigits u - 1 - j) (by omega)
          rw [show 19 - (nDigits u - 1 - j) = 20 - nDigits u + j by omega] at e1
          rw [e1]
          simp only [decDigits_eq, List.getElem_map, List.getElem_range]
          rfl)
        rw [decDigits_length] at h3
        rw [h3, unhide hs']
        rfl
      have hg' := hide hg
      obtain ⟨n, hn⟩ : ∃ n, n = nDigits u := ⟨_, rfl⟩
      obtain ⟨k, hk⟩ : ∃ k, k = 20 - n := ⟨_, rfl⟩
      rw [← hn] at hconv h20 hnp ⊢
      rw [← hk] at hconv ⊢
      have hkI : (k : Int) ≤ 20 := by omega
      have hkI0 : (0 : Int) ≤ k := by omega
      have hkn : 20 - k = n := by omega
      have hk20 : ¬ 20 = k := by omega
      clear hB hf hg hn hk hx hpos
      subst hx0
      go_wp2
      go_ret
      exact ⟨rfl, unhide hg'⟩

theorem utoa_any (w : World) (u : Nat) (hu64 : u < 18446744073709551616) : Calls Tryd.prog 13 #[.int .u64 u] w fun e w' => e = .returned (.string (bstr (decDigits u))) ∧ w.grownBy w' none := by
  rcases Nat.eq_zero_or_pos u with rfl | h
  · exact utoa_zero w
  · exact utoa_pos w u h hu64

set_option maxRecDepth 100000 in
set_option maxHeartbeats 2000000 in
theorem itoa_any (w : World) (i : Int) (h0 : -9223372036854775808 ≤ i) (h1 : i ≤ 9223372036854775807) : Calls Tryd.prog 12 #[.int .i64 i] w fun e w' => e = .returned (.string (bstr (Lib.itoa i))) ∧ w.grownBy w' none := by
  by_cases hneg : i < 0
  · obtain ⟨u, rfl⟩ : ∃ u : Nat, i = -(u : Int) := ⟨i.natAbs, by omega⟩
    have hu1 : 1 ≤ u := by omega
    have hu64 : u < 18446744073709551616 := by omega
    have hwr : IntKind.u64.wrap (-IntKind.u64.wrap (-(u : Int))) = (u : Int) := by rw [IntKind.wrap_u64, IntKind.wrap_u64]; omega
    have e1 : Hid (bstr [45] ++ bstr (decDigits u) = bstr (Lib.itoa (-(u : Int)))) := by
      rw [Hid, Lib.itoa_neg u hu1]
      unfold bstr
      apply ByteArray.ext
      simp
    have HU := hide (utoa_any w u hu64)
    obtain ⟨s, hs⟩ : ∃ s, s = bstr (decDigits u) := ⟨_, rfl⟩
    rw [← hs] at HU e1
    have hsz : s.size ≤ 20 := by rw [hs, bstr_size, decDigits_length]; exact nDigits_le20 u hu64
    clear hs
    go_enter Tryd.func12, Tryd.ntmps12
    go_wp2_with fail
    refine (unhide HU).mono ?_
    rintro e w' ⟨rfl, hg⟩
    have hg' := hide hg
    clear hg
    go_wp2
    go_ret
    exact ⟨by rw [← unhide e1]; rfl, unhide hg'⟩
  · obtain ⟨u, rfl⟩ : ∃ u : Nat, i = (u : Int) := ⟨i.natAbs, by omega⟩
    have hu64 : u < 18446744073709551616 := by omega
    have hwr : IntKind.u64.wrap (u : Int) = (u : Int) := by rw [IntKind.wrap_u64]; omega
    have e1 : Lib.itoa (u : Int) = Lib.decDigits u := by unfold Lib.itoa; rw [if_neg hneg]; rfl
    rw [e1]
    have HU := hide (utoa_any w u hu64)
    obtain ⟨s, hs⟩ : ∃ s, s = bstr (decDigits u) := ⟨_, rfl⟩
    rw [← hs] at HU ⊢
    clear hs e1
    go_enter Tryd.func12, Tryd.ntmps12
    go_wp2_with fail
    refine (unhide HU).mono ?_
    rintro e w' ⟨rfl, hg⟩
    have hg' := hide hg
    clear hg
    go_wp2
    go_ret
    exact ⟨rfl, unhide hg'⟩

end Go.Proofs.Qxb6614069aDoor
