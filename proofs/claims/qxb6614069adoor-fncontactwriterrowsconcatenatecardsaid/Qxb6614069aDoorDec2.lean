import Derived.Test.Qxb6614069aDoorDec
import Derived.Lib.ItoaMem
namespace Go.Proofs.Qxb6614069aDoor
open Go.RowKit Go.Lib

theorem nd_le_of_lt {v i : Nat} (h1 : 1 ≤ v) (h : v < 10 ^ i) : nDigits v ≤ i := by
  have h2 := pow_nDigits_le v h1
  have h3 : 10 ^ (nDigits v - 1) < 10 ^ i := Nat.lt_of_le_of_lt h2 h
  have h4 := (Nat.pow_lt_pow_iff_right (a := 10) (by decide)).1 h3
  omega

theorem lt_nd_of_le {v i : Nat} (h : 10 ^ i ≤ v) : i < nDigits v := by
  have h2 := lt_pow_nDigits v
  exact (Nat.pow_lt_pow_iff_right (a := 10) (by decide)).1 (Nat.lt_of_le_of_lt h h2)

theorem dg_toNat (u i : Nat) : (dg u i).toNat = 48 + u / 10 ^ i % 10 := by
  unfold dg
  rw [UInt8.toNat_ofNat']
  have : u / 10 ^ i % 10 < 10 := Nat.mod_lt _ (by decide)
  omega

theorem trim_law : ∀ (nd N : Nat) (f : Nat → UInt8), 1 ≤ N → nDigits N = nd → (∀ j, j < nd → f j = dg N (nd - 1 - j)) →
    ∃ N' t, N = N' * 10 ^ t ∧ 1 ≤ N' ∧ trimN f nd = nDigits N' ∧ nDigits N' + t = nd ∧ ∀ j, j < nDigits N' → f j = dg N' (nDigits N' - 1 - j)
  | 0, N, _, _, hn, _ => by have := nDigits_pos N; omega
  | n + 1, N, f, h1, hn, hf => by
    have e0 : f n = dg N 0 := by rw [hf n (by omega)]; congr 1; omega
    by_cases hz : N % 10 = 0
    · have hN10 : ¬ N < 10 := by omega
      have hn1 : nDigits (N / 10) = n := by rw [nDigits_big hN10] at hn; omega
      obtain ⟨N', t, a1, a2, a3, a4, a5⟩ := trim_law n (N / 10) f (by omega) hn1 (fun j hj => by
        rw [hf j (by omega), show n + 1 - 1 - j = (n - 1 - j) + 1 by omega, dg_succ])
      refine ⟨N', t + 1, ?_, a2, ?_, by omega, a5⟩
      · rw [Nat.pow_succ, ← Nat.mul_assoc, ← a1]; omega
      · have : f n = 48 := by
          apply UInt8.toNat_inj.1
          rw [e0, dg_toNat]; simp; omega
        rw [trimN, if_pos this, a3]
    · refine ⟨N, 0, by simp, h1, ?_, by omega, fun j hj => ?_⟩
      · have : f n ≠ 48 := by
          intro e
          have h2 := congrArg UInt8.toNat e
          rw [e0, dg_toNat] at h2
          simp at h2; omega
        rw [trimN, if_neg this, hn]
      · rw [hn] at hj ⊢
        exact hf j hj

/-- A decimal that holds the number V. -/
def DN (w : World) (D V b : Nat) : Prop :=
  ∃ N t f, V = N * 10 ^ t ∧ 1 ≤ N ∧ nDigits N + t ≤ b ∧ Dec w D f (nDigits N) ((nDigits N + t : Nat) : Int) ∧ ∀ j, j < nDigits N → f j = dg N (nDigits N - 1 - j)

/-- Behind trim. -/
theorem DN.trimmed {w w' : World} {D N t b : Nat} {f : Nat → UInt8} (hN : 1 ≤ N) (hb : nDigits N + t ≤ b) (hf : ∀ j, j < nDigits N → f j = dg N (nDigits N - 1 - j)) {e : Ending}
    (h : TrimP w D f (nDigits N) ((nDigits N + t : Nat) : Int) e w') : e = .returned (.tuple #[]) ∧ DN w' D (N * 10 ^ t) b ∧ w.grownBy w' (some D) := by
  obtain ⟨h1, h2, h3⟩ := h
  obtain ⟨N', t', a1, a2, a3, a4, a5⟩ := trim_law (nDigits N) N f hN rfl hf
  refine ⟨h1, ⟨N', t' + t, f, ?_, a2, by omega, ?_, a5⟩, h3⟩
  · rw [a1, Nat.pow_add, ← Nat.mul_assoc]
  · rw [a3, if_neg (by have := nDigits_pos N'; omega)] at h2
    have e : nDigits N + t = nDigits N' + (t' + t) := by omega
    rw [← e]
    exact h2

/-- The row of 24 bytes that Assign fills from the right. -/
structure Buf24 (w : World) (B : Nat) (f : Nat → UInt8) : Prop where
  cell : ∀ j, j < 24 → w.cell? ⟨B, j, none⟩ = some (byteV (f j))
  frz : ∀ j, w.frozen? ⟨B, j, none⟩ = false

theorem Buf24.set {w : World} {B : Nat} {f : Nat → UInt8} (h : Buf24 w B f) {i : Nat} (c : UInt8) : Buf24 (w.setCell ⟨B, i, none⟩ (byteV c)) B (upd f i c) where
  cell := fun j hj => by
    unfold upd
    by_cases e : j = i
    · subst e; rw [if_pos rfl]; exact World.cell?_setCell_same w _ _ (h.cell j hj)
    · rw [if_neg e, World.cell?_setCell_other w _ _ _ (addr_ne (Ne.symm e))]; exact h.cell j hj
  frz := fun j => by rw [World.frozen?_setCell]; exact h.frz j

theorem Buf24.keep {w w' : World} {B : Nat} {f : Nat → UInt8} (h : Buf24 w B f) {r : Option Nat} (hg : w.grownBy w' r) (hr : some B ≠ r) : Buf24 w' B f := by
  have hb := hg.block B (World.block_lt_of_cell? w _ (h.cell 0 (by omega))) hr
  exact ⟨fun j hj => (World.cell?_of_block (a := ⟨B, j, none⟩) hb).trans (h.cell j hj), fun j => (World.frozen?_of_block (a := ⟨B, j, none⟩) hb).trans (h.frz j)⟩

/-- What Assign leaves. -/
def AsgP (w : World) (D v : Nat) (e : Ending) (w' : World) : Prop := e = .returned (.tuple #[]) ∧ DN w' D v 20 ∧ w.grownBy w' (some D)

set_option maxRecDepth 100000 in
set_option maxHeartbeats 2000000 in
theorem assign_any (w : World) (D v : Nat) (f0 : Nat → UInt8) (dp0 : Int) (h : Dec w D f0 0 dp0) (h1 : 1 ≤ v) (hv : v < 18446744073709551616) : Calls Tryd.prog 50 #[.pointer (some ⟨D, 0, none⟩), .int .u64 v] w (AsgP w D v) := by
  have hD := hide h
  have hDlt := h.lt
  have h20 := nDigits_le20 v hv
  have hb0 : Hid (Buf24 (w.alloc (.cells Lib.zeros24 77)) w.heap.size (fun _ => 0)) := ⟨fun j hj => by
    rw [World.cell?_alloc_new, zeros24_at _ hj]; rfl, fun j => World.frozen?_alloc_new _ _ _ _⟩
  clear h
  go_enter Tryd.func50, Tryd.ntmps50
  go_wp2
  go_loopw [1, 5] (fun vv nv wr => ∃ i : Nat, i ≤ nDigits v ∧ vv = .int .u64 ((v / 10 ^ i : Nat) : Int) ∧ nv = .int .i64 i ∧ (∃ f, Buf24 wr w.heap.size f ∧ ∀ j, j < i → f j = dg v j) ∧ Dec wr D f0 0 dp0 ∧ w.grownBy wr none) (fun vv _ _ => (RowKit.intOf vv).toNat)
  case atStart =>
    refine ⟨0, Nat.zero_le _, by simp, rfl, ⟨_, unhide hb0, fun j hj => by omega⟩, (unhide hD).keep (World.grownBy_alloc _ _ none) (by simp), World.grownBy_alloc _ _ _⟩
  case round =>
    clear hb0
    obtain ⟨i, hi, rfl, rfl, ⟨f, hB, hf⟩, hR, hg⟩ := hrel
    obtain ⟨x, hx⟩ : ∃ x, x = v / 10 ^ i := ⟨_, rfl⟩
    rw [← hx]
    by_cases hpos : 0 < x
    · obtain ⟨q, hq⟩ : ∃ q, q = x / 10 := ⟨_, rfl⟩
      obtain ⟨r, hr⟩ : ∃ r, r = x % 10 := ⟨_, rfl⟩
      have hxv : x ≤ v := by rw [hx]; exact Nat.div_le_self _ _
      have eq1 : (x : Int) / 10 = (q : Int) := by omega
      have er1 : (x : Int) - 10 * (q : Int) = (r : Int) := by omega
      have hr9 : r ≤ 9 := by omega
      have hlt : i < nDigits v := lt_nd_of_le (by
        rw [hx] at hpos
        exact (Nat.div_pos_iff.1 hpos).2)
      have hqv : Hid (q = v / 10 ^ (i + 1)) := by
        rw [Hid, hq, hx, Nat.div_div_eq_div_mul, ← Nat.pow_succ]
      have hdg : Hid (Value.int .u8 ((r : Int) + 48) = byteV (dg v i)) := by
        unfold Hid byteV
        rw [dg_toNat, hr, hx]
        congr 1
        omega
      have ci := hB.cell i (by omega)
      have fi := hB.frz i
      have hq9 : q ≤ x := by omega
      have hB' := hide hB
      have hf' := hide hf
      have hR' := hide hR
      have hg' := hide hg
      clear hB hf hR hg hq hr hx
      go_wp2
      rw [unhide hdg]
      go_roundw
      case rel =>
        refine ⟨i + 1, by omega, by rw [← unhide hqv], by go_num, ⟨_, (unhide hB').set (dg v i), fun j hj => ?_⟩, (unhide hR').keep (Lib.grownBy_setCell _ _ _ _) (by simp; omega), grownBy_then (unhide hg') (Lib.grownBy_setCell _ _ _ _) (.inr (by simp))⟩
        unfold upd
        by_cases e : j = i
        · rw [if_pos e, e]
        · rw [if_neg e]; exact unhide hf' j (by omega)
      case measure => simp [RowKit.intOf]; omega
    · have hx0 : x = 0 := by omega
      have him : i = nDigits v := by
        have h2 : v < 10 ^ i := by
          rcases Nat.lt_or_ge v (10 ^ i) with h | h
          · exact h
          · have := Nat.div_pos h (Nat.pow_pos (by decide) : 0 < 10 ^ i)
            omega
        have := nd_le_of_lt h1 h2
        omega
      subst hx0
      have c800 := hR.nd
      have f800 := hR.frz 800
      have hm1 := nDigits_pos v
      obtain ⟨m, hm⟩ : ∃ m, m = nDigits v := ⟨_, rfl⟩
      rw [← hm] at hm1 h20 him
      subst him
      have hB' := hide hB
      have hf' := hide hf
      have hR2 := hide (hR.setNd 0)
      have hg2 := hide (grown_set (i := 800) (v := .int .i64 0) (grownBy_then (grownBy_refl w (some D)) hg (.inr (by simp))))
      have hm' := hide hm
      clear hB hf hR hg hm hx hi hpos
      obtain ⟨wq, rfl⟩ : ∃ q : World, q = wr := ⟨_, rfl⟩
      go_wp2
      go_loopw [5] (fun nv wr => ∃ t : Nat, t ≤ i ∧ nv = .int .i64 ((i : Int) - 1 - (t : Int)) ∧ (∃ f, Buf24 wr w.heap.size f ∧ ∀ j, j < i → f j = dg v j) ∧ (∃ f, Dec wr D f t dp0 ∧ ∀ j, j < t → f j = dg v (i - 1 - j)) ∧ w.grownBy wr (some D)) (fun nv _ => (RowKit.intOf nv + 1).toNat)
      case atStart =>
        refine ⟨0, Nat.zero_le _, by go_num, ⟨f, (unhide hB').keep (Lib.grownBy_setCell _ _ _ _) (by simp; omega), unhide hf'⟩, ⟨f0, unhide hR2, fun j hj => by omega⟩, unhide hg2⟩
      case round =>
        clear hB' hf' hR2 hg2
        obtain ⟨t, ht, rfl, ⟨f, hB, hf⟩, ⟨g, hR, hgd⟩, hg⟩ := hrel
        have d800 := hR.nd
        have d801 := hR.dp
        have z800 := hR.frz 800
        have z801 := hR.frz 801
        by_cases hlt : t < i
        · obtain ⟨k, hk⟩ : ∃ k : Nat, k = i - 1 - t := ⟨_, rfl⟩
          have ek : (i : Int) - 1 - (t : Int) = (k : Int) := by omega
          rw [ek]
          have hk24 : k < 24 := by omega
          have ck := hB.cell k hk24
          rw [hf k (by omega)] at ck
          have ct := hR.dig t (by omega)
          have zt := hR.frz t
          have hB' := hide hB
          have hf' := hide hf
          have hR' := hide hR
          have hgd' := hide hgd
          have hg' := hide hg
          have hk' := hide hk
          clear hB hf hR hgd hg hk
          have hR3 := hide ((((unhide hR').keep (grownBy_drew wr 1 none) (by simp)).setDig (i := t) (by omega) (dg v k)).setNd (t + 1))
          have hB3 := hide ((((unhide hB').keep (grownBy_drew wr 1 none) (by simp)).keep (Lib.grownBy_setCell (wr.drewN 1) D t (byteV (dg v k))) (by simp; omega)).keep (Lib.grownBy_setCell _ D 800 (.int .i64 ((t + 1 : Nat) : Int))) (by simp; omega))
          have hg3 := hide (grown_set (i := 800) (v := .int .i64 ((t + 1 : Nat) : Int)) (grown_set (i := t) (v := byteV (dg v k)) (grownBy_then (unhide hg') (grownBy_drew wr 1 none) (.inr (by simp)))))
          have hgd3 : Hid (∀ j, j < t + 1 → upd g t (dg v k) j = dg v (i - 1 - j)) := fun j hj => by
            unfold upd
            by_cases e : j = t
            · rw [if_pos e, e, unhide hk']
            · rw [if_neg e]; exact unhide hgd' j (by omega)
          unfold byteV at ck ct
          go_wp2
          go_region
          all_goals go_wp2
          all_goals go_roundw
          case rel => exact ⟨t + 1, by omega, by go_num, ⟨f, unhide hB3, unhide hf'⟩, ⟨_, unhide hR3, unhide hgd3⟩, unhide hg3⟩
          case measure => simp [RowKit.intOf]
        · have hte : t = i := by omega
          subst hte
          have eneg : (t : Int) - 1 - (t : Int) = -1 := by omega
          rw [eneg]
          have hm2 := unhide hm'
          have hR2 := hide (hR.setDp (t : Int))
          have hg2 := hide (grown_set (i := 801) (v := .int .i64 (t : Int)) hg)
          have hgd' := hide hgd
          have HT := hide (trim_any (wr.setCell ⟨D, 801, none⟩ (.int .i64 (t : Int))) D g t (t : Int) (unhide hR2) (by omega))
          clear hB hf hR hgd hg hm2
          go_wp2_with fail
          refine (unhide HT).mono ?_
          intro e w' hT
          have hT' := hide hT
          clear hT
          have hfin : Hid (AsgP w D v e w') := by
            have h2 := unhide hT'
            have h3 := unhide hgd'
            have hm2 := unhide hm'
            subst hm2
            obtain ⟨a1, a2, a3⟩ := DN.trimmed (t := 0) h1 h20 h3 h2
            exact ⟨a1, by simpa using a2, grownBy_then (unhide hg2) a3 (.inl rfl)⟩
          obtain ⟨he, -, -⟩ := unhide hT'
          subst he
          go_wp2
          go_end0
          exact unhide hfin

end Go.Proofs.Qxb6614069aDoor
