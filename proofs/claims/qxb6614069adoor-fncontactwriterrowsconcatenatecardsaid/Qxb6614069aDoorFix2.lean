import Derived.Test.Qxb6614069aDoorFix
import Derived.Test.Qxb6614069aDoorDec2
namespace Go.Proofs.Qxb6614069aDoor
open Go.RowKit Go.Lib Go.Sort

/-- The two rows of the table of powers that the road reads. -/
structure P10 (w : World) : Prop where
  h2 : w.cell? ⟨5, 700, none⟩ = some (.int .u64 14411518807585587200)
  l2 : w.cell? ⟨5, 701, none⟩ = some (.int .u64 0)
  h3 : w.cell? ⟨5, 702, none⟩ = some (.int .u64 18014398509481984000)
  l3 : w.cell? ⟨5, 703, none⟩ = some (.int .u64 0)

def p10hi (p : Nat) : Nat := if p = 2 then 14411518807585587200 else 18014398509481984000

/-- A scaler in the block P. -/
structure Scl (w : World) (P : Nat) (a b c : Value) : Prop where
  c0 : w.cell? ⟨P, 0, none⟩ = some a
  c1 : w.cell? ⟨P, 1, none⟩ = some b
  c2 : w.cell? ⟨P, 2, none⟩ = some c
  frz : ∀ j, w.frozen? ⟨P, j, none⟩ = false

theorem Scl.set {w : World} {P : Nat} {a b c : Value} (h : Scl w P a b c) (x y z : Value) : Scl (((w.setCell ⟨P, 0, none⟩ x).setCell ⟨P, 1, none⟩ y).setCell ⟨P, 2, none⟩ z) P x y z := by
  have k0 : (w.setCell ⟨P, 0, none⟩ x).cell? ⟨P, 0, none⟩ = some x := World.cell?_setCell_same w _ _ h.c0
  have k1 : (w.setCell ⟨P, 0, none⟩ x).cell? ⟨P, 1, none⟩ = some b := by rw [World.cell?_setCell_other w _ _ _ (addr_ne (by decide))]; exact h.c1
  have k2 : (w.setCell ⟨P, 0, none⟩ x).cell? ⟨P, 2, none⟩ = some c := by rw [World.cell?_setCell_other w _ _ _ (addr_ne (by decide))]; exact h.c2
  refine ⟨?_, ?_, ?_, fun j => by simp [h.frz j]⟩
  · rw [World.cell?_setCell_other _ _ _ _ (addr_ne (by decide)), World.cell?_setCell_other _ _ _ _ (addr_ne (by decide))]; exact k0
  · rw [World.cell?_setCell_other _ _ _ _ (addr_ne (by decide))]; exact World.cell?_setCell_same _ _ _ k1
  · exact World.cell?_setCell_same _ _ _ (by rw [World.cell?_setCell_other _ _ _ _ (addr_ne (by decide))]; exact k2)

set_option maxRecDepth 100000 in
set_option maxHeartbeats 1000000 in
theorem prescale_any (w : World) (P p : Nat) (e lp : Int) (a b c : Value) (hS : Scl w P a b c) (hT : P10 w) (hp : p = 2 ∨ p = 3) (h0 : -2000 ≤ e) (h1 : e ≤ 2000) (l0 : 0 ≤ lp) (l1 : lp ≤ 100) :
    Calls Tryd.prog 58 #[.pointer (some ⟨P, 0, none⟩), .int .i64 e, .int .i64 p, .int .i64 lp] w fun en w' => en = .returned (.tuple #[]) ∧ Scl w' P (.int .u64 (p10hi p : Nat)) (.int .u64 0) (.int .i64 (-(e + lp + 3))) ∧ w.grownBy w' (some P) := by
  obtain ⟨t1, t2, t3, t4⟩ := hT
  have c0 := hS.c0
  have c1 := hS.c1
  have c2 := hS.c2
  have f0 := hS.frz 0
  have f1 := hS.frz 1
  have f2 := hS.frz 2
  have hS2 := hide (hS.set (.int .u64 (p10hi p : Nat)) (.int .u64 0) (.int .i64 (-(e + lp + 3))))
  have hg2 := hide (grown_set (i := 2) (v := .int .i64 (-(e + lp + 3))) (grown_set (i := 1) (v := .int .u64 0) (Lib.grownBy_setCell w P 0 (.int .u64 (p10hi p : Nat)))))
  clear hS
  rcases hp with rfl | rfl
  · have eh : p10hi 2 = 14411518807585587200 := rfl
    rw [eh] at hS2 hg2 ⊢
    go_enter Tryd.func58, Tryd.ntmps58
    go_wp2
    go_end0
    exact ⟨rfl, unhide hS2, unhide hg2⟩
  · have eh : p10hi 3 = 18014398509481984000 := rfl
    rw [eh] at hS2 hg2 ⊢
    go_enter Tryd.func58, Tryd.ntmps58
    go_wp2
    go_end0
    exact ⟨rfl, unhide hS2, unhide hg2⟩

/-- What fixedWidthFloat reckons: the digits and how many of them stand behind the point. -/
def fixA (m p n s : Nat) : Nat × Nat := if 4 * 10 ^ n ≤ usc m (p10hi p) s + 2 then (udiv10 (usc m (p10hi p) s), p - 1) else (usc m (p10hi p) s, p)
def fixC (a : Nat × Nat) : Nat × Nat := if 2 < a.2 then (udiv10 a.1, a.2 - 1) else a
def fixU (m p n s : Nat) : Nat × Nat := (uround (fixC (fixA m p n s)).1, (fixC (fixA m p n s)).2)

theorem udiv10_le (x : Nat) : udiv10 x ≤ x / 10 + 1 := by unfold udiv10; exact st_le _ _

theorem usc_lt (m hi s : Nat) (hm : m < 18446744073709551616) (hh : hi < 18446744073709551616) (hs : 2 ≤ s) : usc m hi s < 4611686018427387906 := by
  have h1 : m * hi / 18446744073709551616 < 18446744073709551616 := by
    rw [Nat.div_lt_iff_lt_mul (by decide)]; exact Nat.mul_lt_mul'' hm hh
  have h2 : m * hi / 18446744073709551616 / 2 ^ s ≤ m * hi / 18446744073709551616 / 2 ^ 2 := Nat.div_le_div_left (Nat.pow_le_pow_right (by decide) hs) (by decide)
  have h3 := st_le (m * hi / 18446744073709551616 / 2 ^ s) (decide (m * hi / 18446744073709551616 % 2 ^ s ≠ 0) || decide (1 < m * hi % 18446744073709551616))
  unfold usc
  omega

/-- The table of powers, cell by cell. -/
def PowC (w : World) : Prop := ∀ n, n < 20 → w.cell? ⟨1, n, none⟩ = some (.int .u64 ((10 ^ n : Nat) : Int))

set_option maxRecDepth 100000 in
set_option maxHeartbeats 4000000 in
theorem fixed_any (w : World) (m n p s : Nat) (e : Int) (hm : m < 18446744073709551616) (hn1 : 1 ≤ n) (hn : n ≤ 18) (h0 : -1000 ≤ e) (h1 : e ≤ 1000) (hp : p = 2 ∨ p = 3) (hpe : (n : Int) - 1 - (e + 63) * 78913 / 262144 = (p : Int)) (hs2 : 2 ≤ s) (hs : s < 64) (hse : -(e + (p : Int) * 108853 / 32768 + 3) = (s : Int))
    (hT : ∀ wr, w.grownBy wr none → P10 wr ∧ PowC wr) :
    Calls Tryd.prog 49 #[.int .u64 m, .int .i64 e, .int .i64 n, .int .i64 2, .int .u8 102] w fun en w' => en = .returned (.tuple #[.int .u64 ((fixU m p n s).1 : Nat), .int .i64 (-((fixU m p n s).2 : Nat))]) ∧ w.grownBy w' none := by
  have HL := hide (log10_any (e + 63) (by omega) (by omega) w)
  obtain ⟨lq, hlq⟩ : ∃ lq, lq = (e + 63) * 78913 / 262144 := ⟨_, rfl⟩
  rw [← hlq] at HL hpe
  have hpI : (n : Int) - 1 - lq = (p : Int) := hpe
  obtain ⟨lp, hlp⟩ : ∃ lp, lp = (p : Int) * 108853 / 32768 := ⟨_, rfl⟩
  have hl0 : 0 ≤ lp := by omega
  have hl1 : lp ≤ 100 := by omega
  have hT' := hide hT
  have hS0 : Scl (w.alloc (.cells #[.int .u64 0, .int .u64 0, .int .i64 0] 114)) w.heap.size (.int .u64 0) (.int .u64 0) (.int .i64 0) := ⟨World.cell?_alloc_new _ _ _ _, World.cell?_alloc_new _ _ _ _, World.cell?_alloc_new _ _ _ _, fun j => World.frozen?_alloc_new _ _ _ _⟩
  have HL2 := hide (log2_any (p : Int) (by omega) (by omega) (w.alloc (.cells #[.int .u64 0, .int .u64 0, .int .i64 0] 114)))
  rw [← hlp] at HL2 hse
  have HP := hide (prescale_any _ w.heap.size p e lp _ _ _ hS0 (hT _ (World.grownBy_alloc _ _ _)).1 hp (by omega) (by omega) hl0 hl1)
  rw [hse] at HP
  have hlq0 : -2000 ≤ lq := by omega
  have hlq1 : lq ≤ 2000 := by omega
  have hp3 : p ≤ 3 := by omega
  clear hlq hlp hpe hS0 hse hT
  have hub := usc_lt m (p10hi p) s hm (by unfold p10hi; split <;> decide) hs2
  have hA : Hid (fixU m p n s = (uround (fixC (if 4 * 10 ^ n ≤ usc m (p10hi p) s + 2 then (udiv10 (usc m (p10hi p) s), p - 1) else (usc m (p10hi p) s, p))).1, (fixC (if 4 * 10 ^ n ≤ usc m (p10hi p) s + 2 then (udiv10 (usc m (p10hi p) s), p - 1) else (usc m (p10hi p) s, p))).2)) := rfl
  obtain ⟨u, hu0⟩ : ∃ u, u = usc m (p10hi p) s := ⟨_, rfl⟩
  rw [← hu0] at hub hA
  obtain ⟨R, hR⟩ : ∃ R, R = fixU m p n s := ⟨_, rfl⟩
  rw [← hR] at hA ⊢
  have hu := hide hu0
  clear hu0 hR
  go_enter Tryd.func49, Tryd.ntmps49
  go_wp2_with fail
  refine (unhide HL).mono ?_
  rintro en w1 ⟨rfl, hw⟩
  replace hw := hw.symm
  subst hw
  go_wp2_with fail
  refine (unhide HL2).mono ?_
  rintro en w1 ⟨rfl, hw⟩
  replace hw := hw.symm
  subst hw
  go_wp2_with fail
  refine (unhide HP).mono ?_
  rintro en w2 ⟨rfl, hS2, hg2⟩
  have hgw2 : w.grownBy w2 none := by
    have h3 := grownBy_then (grownBy_then (grownBy_refl w none) (World.grownBy_alloc w (.cells #[.int .u64 0, .int .u64 0, .int .i64 0] 114) none) (.inl rfl)) hg2 (.inr (fun k hk => by cases hk; exact Nat.le_refl _))
    exact h3
  have HU := hide (uscale_any m (p10hi p) s hm (by unfold p10hi; split <;> decide) hs w.heap.size w2 hS2.c0 hS2.c1 hS2.c2)
  rw [← unhide hu] at HU
  clear HL2 HP HL hS2 hg2
  have hgw2' := hide hgw2
  clear hgw2
  go_wp2_with fail
  refine (unhide HU).mono ?_
  rintro en w3 ⟨rfl, k3, rfl⟩
  have hgw3 := grownBy_then (unhide hgw2') (grownBy_drew w2 k3 none) (.inl rfl)
  obtain ⟨w3, hw3⟩ : ∃ w3, w3 = w2.drewN k3 := ⟨_, rfl⟩
  rw [← hw3] at hgw3 ⊢
  have cn := (unhide hT' w3 hgw3).2 n (by omega)
  obtain ⟨x, hx⟩ : ∃ x, x = 10 ^ n := ⟨_, rfl⟩
  have hx1 : 1 ≤ x := by rw [hx]; exact Nat.one_le_pow _ _ (by decide)
  have hx18 : x ≤ 1000000000000000000 := by rw [hx]; exact Nat.le_trans (Nat.pow_le_pow_right (n := 10) (by decide) hn) (by decide)
  have HM := hide (unmin_any x hx1 hx18 w3)
  rw [← hx] at cn hA
  have hgw3' := hide hgw3
  clear hw3 hgw3 hx HU hgw2'
  go_wp2_with fail
  refine (unhide HM).mono ?_
  rintro en w4 ⟨rfl, hw⟩
  replace hw := hw.symm
  subst hw
  go_upto_if 32 with fail
  obtain ⟨Bq, hBq0⟩ : ∃ Bq, Bq = decide ((x : Int) * 4 - 2 ≤ (u : Int)) := ⟨_, rfl⟩
  rw [← hBq0]
  have hBq := hide hBq0
  clear hBq0
  go_cut [13, 11] from 33 to 36 (fun uv pv wx => ∃ A : Nat × Nat, A = (if 4 * x ≤ u + 2 then (udiv10 u, p - 1) else (u, p)) ∧ uv = .int .u64 (A.1 : Nat) ∧ pv = .int .i64 (A.2 : Nat) ∧ w.grownBy wx none)
  case first =>
    cases Bq
    case true =>
      have hc : 4 * x ≤ u + 2 := by have := of_decide_eq_true (unhide hBq).symm; omega
      have HD := hide (div_u u (by omega) w3)
      go_wp2_with fail
      refine (unhide HD).mono ?_
      rintro en w5 ⟨rfl, k5, rfl⟩
      go_wp2
      go_meet
      case rel =>
        refine ⟨(udiv10 u, p - 1), by rw [if_pos hc], rfl, ?_, grownBy_then (unhide hgw3') (grownBy_drew w3 k5 none) (.inl rfl)⟩
        show Value.int .i64 ((p : Int) - 1) = .int .i64 ((p - 1 : Nat) : Int)
        congr 1; omega
    case false =>
      have hc : ¬ 4 * x ≤ u + 2 := by have := of_decide_eq_false (unhide hBq).symm; omega
      go_wp2
      go_meet
      case rel => exact ⟨(u, p), by rw [if_neg hc], rfl, rfl, unhide hgw3'⟩
  case rest =>
    obtain ⟨A, hAe, rfl, rfl, hgc⟩ := hcut
    rw [← hAe] at hA
    have hA1 : A.1 < 9223372036854775808 := by
      rw [hAe]; split
      · have := udiv10_le u; show udiv10 u < _; omega
      · show u < _; omega
    have hA2 : 1 ≤ A.2 ∧ A.2 ≤ 3 := by
      rw [hAe]; split
      · show 1 ≤ p - 1 ∧ p - 1 ≤ 3; omega
      · show 1 ≤ p ∧ p ≤ 3; omega
    obtain ⟨a, q⟩ := A
    simp only at hA1 hA2 ⊢
    have hgc' := hide hgc
    clear hAe hgc hgw3' HM hpI
    obtain ⟨hq1, hq3⟩ := hA2
    go_upto_region 9 with fail
    go_loopw [13, 11] (fun uv pv wr => ((uv = .int .u64 (a : Nat) ∧ pv = .int .i64 (q : Nat)) ∨ (q = 3 ∧ uv = .int .u64 (udiv10 a : Nat) ∧ pv = .int .i64 2)) ∧ w.grownBy wr none) (fun _ pv _ => (RowKit.intOf pv).toNat)
    case atStart => exact ⟨.inl ⟨rfl, rfl⟩, unhide hgc'⟩
    case round =>
      obtain ⟨hst, hg⟩ := hrel
      have hg' := hide hg
      clear hg hgc'
      by_cases h3 : q = 3
      · subst h3
        rcases hst with ⟨rfl, rfl⟩ | ⟨-, rfl, rfl⟩
        · have HD := hide (div_u a hA1 wr)
          clear hA
          go_wp2_with fail
          refine (unhide HD).mono ?_
          rintro en w5 ⟨rfl, k5, rfl⟩
          go_wp2
          go_roundw
          case rel => exact ⟨.inr ⟨by trivial, rfl, rfl⟩, grownBy_then (unhide hg') (grownBy_drew wr k5 none) (.inl rfl)⟩
          case measure => simp [RowKit.intOf]
        · have hRe : Hid (R = (uround (udiv10 a), 2)) := by
            unfold Hid; have := unhide hA
            simpa [fixC] using this
          have hd1 : udiv10 a < 9223372036854775808 := by have := udiv10_le a; omega
          have HR := hide (round_u (udiv10 a) hd1 wr)
          clear hA
          go_wp2_with fail
          refine (unhide HR).mono ?_
          rintro en w5 ⟨rfl, hw⟩
          replace hw := hw.symm
          subst hw
          go_wp2
          go_ret2
          exact ⟨by rw [unhide hRe]; rfl, unhide hg'⟩
      · rcases hst with ⟨rfl, rfl⟩ | ⟨h, -, -⟩
        · have hRe : Hid (R = (uround a, q)) := by
            have := unhide hA
            unfold fixC at this
            rw [if_neg (show ¬ 2 < q by omega)] at this
            exact this
          have HR := hide (round_u a hA1 wr)
          have hq2 : q ≤ 2 := by omega
          clear hA
          go_wp2_with fail
          refine (unhide HR).mono ?_
          rintro en w5 ⟨rfl, hw⟩
          replace hw := hw.symm
          subst hw
          go_wp2
          go_ret2
          exact ⟨by rw [unhide hRe]; rfl, unhide hg'⟩
        · exact absurd h h3

theorem grownBy_putRow (w : World) (B : Nat) (d : Array UInt8) (k : Nat) : w.grownBy ((putRow (fun (b : UInt8) => Value.int .u8 (b.toNat : Int)) w B 0 d).drewN k) (some B) := by
  refine ⟨rfl, rfl, rfl, ?_, fun j _ hj => ?_⟩
  · show w.heap.size ≤ (putRow (fun (b : UInt8) => Value.int .u8 (b.toNat : Int)) w B 0 d).heap.size
    rw [size_putRow]; exact Nat.le_refl _
  · show (putRow (fun (b : UInt8) => Value.int .u8 (b.toNat : Int)) w B 0 d).heap[j]? = _
    unfold putRow mapBlock
    simp only [Array.getElem?_modify]
    rw [if_neg (fun e => hj (by rw [e]))]

/-- The digits of d, the first ahead. -/
def digF (d : Nat) : Nat → UInt8 := fun j => dg d (nDigits d - 1 - j)

/-- What setDigits leaves. -/
def SetP (w : World) (B d : Nat) (p : Int) (e : Ending) (w' : World) : Prop :=
  e = .returned (.tuple #[.int .i64 ((nDigits d : Nat) + p), .int .i64 (trimN (digF d) (nDigits d) : Nat)]) ∧
    (∀ j, j < nDigits d → w'.cell? ⟨B, j, none⟩ = some (byteV (digF d j))) ∧ w.grownBy w' (some B)

set_option maxRecDepth 100000 in
set_option maxHeartbeats 2000000 in
theorem setDigits_any (w : World) (B d : Nat) (p : Int) (hd : d < 18446744073709551616) (hp0 : -10 ≤ p) (hp1 : p ≤ 10) (hB : Buf24 w B (fun _ => 0)) :
    Calls Tryd.prog 48 #[.slice (some ⟨B, 0, none⟩) 24 24, .int .u64 d, .int .i64 p, .int .i64 (nDigits d : Nat)] w (SetP w B d p) := by
  have h20 := nDigits_le20 d hd
  have hfmt := Tryd.internal_strconv_formatBase10 B 0 24 d (Array.replicate (nDigits d) 0) w (fun j hj => by
    rw [Array.size_replicate] at hj
    refine ⟨?_, ?_⟩
    · rw [Nat.zero_add, hB.cell j (by omega), getElem!_pos _ j (by rw [Array.size_replicate]; exact hj)]
      simp [byteV]
    · rw [Nat.zero_add]; exact hB.frz j) (by rw [Array.size_replicate]; exact lt_pow_nDigits d) hd (by rw [Array.size_replicate]; omega)
  rw [Array.size_replicate] at hfmt
  have HF := hide hfmt
  have hB' := hide hB
  have hnd1 := nDigits_pos d
  clear hfmt hB
  obtain ⟨n, hn⟩ : ∃ n, n = nDigits d := ⟨_, rfl⟩
  have hnH := hide hn
  rw [← hn] at h20 HF hnd1 ⊢
  clear hn
  go_enter Tryd.func48, Tryd.ntmps48
  go_wp2_with fail
  refine (unhide HF).mono ?_
  rintro e w' ⟨rfl, k, v', dk, rfl, hF⟩
  have hcell : ∀ j, j < n → ((putRow (fun (b : UInt8) => Value.int .u8 (b.toNat : Int)) w B 0 dk).drewN k).cell? ⟨B, j, none⟩ = some (byteV (dg d (n - 1 - j))) := fun j hj => by
    rw [World.cell?_drewN]
    have h2 := cell?_putRow (fun (b : UInt8) => Value.int .u8 (b.toNat : Int)) w B 0 (Array.replicate n (0 : UInt8)) dk (fun j hj => by
      rw [Array.size_replicate] at hj
      refine ⟨?_, ?_⟩
      · rw [Nat.zero_add, (unhide hB').cell j (by omega), getElem!_pos _ j (by rw [Array.size_replicate]; exact hj)]
        simp [byteV]
      · rw [Nat.zero_add]; exact (unhide hB').frz j) (by rw [hF.size, Array.size_replicate]) j (by rw [hF.size]; exact hj)
    rw [Nat.zero_add] at h2
    rw [h2, hF.done j (Nat.zero_le _) hj]
    rfl
  have hgr := hide (grownBy_putRow w B dk k)
  obtain ⟨w1, hw1⟩ : ∃ w1, w1 = (putRow (fun (b : UInt8) => Value.int .u8 (b.toNat : Int)) w B 0 dk).drewN k := ⟨_, rfl⟩
  rw [← hw1] at hcell hgr ⊢
  have hcell' := hide hcell
  clear hw1 hF HF hB' hcell
  obtain ⟨f, hf⟩ : ∃ f : Nat → UInt8, f = digF d := ⟨_, rfl⟩
  have hfH : Hid (f = fun j => dg d (n - 1 - j)) := by rw [Hid, hf, unhide hnH]; rfl
  have hfD := hide hf
  clear hf
  go_wp2
  go_loopw [3] (fun nv wr => ∃ m : Nat, m ≤ n ∧ nv = .int .i64 m ∧ wr = w1 ∧ trimN f n = trimN f m) (fun nv _ => (RowKit.intOf nv).toNat)
  case atStart => exact ⟨n, Nat.le_refl _, rfl, rfl, rfl⟩
  case round =>
    obtain ⟨m, hm, rfl, hw, ht⟩ := hrel
    replace hw := hw.symm
    subst hw
    have hfin : Hid (∀ m', trimN f n = m' → SetP w B d p (.returned (.tuple #[.int .i64 ((n : Int) + p), .int .i64 (m' : Nat)])) w1) := fun m' hm' => by
      refine ⟨?_, ?_, unhide hgr⟩
      · rw [← unhide hnH, ← unhide hfD, hm']
      · rw [← unhide hnH, ← unhide hfD]; intro j hj; rw [unhide hcell' j hj, unhide hfH]
    have ht' := hide ht
    clear ht
    cases m with
    | zero =>
      have hz := hide (unhide hfin 0 ((unhide ht').trans rfl))
      go_wp2
      go_ret2
      exact unhide hz
    | succ m =>
      have cm := unhide hcell' m (by omega)
      have hfm : f m = dg d (n - 1 - m) := by rw [unhide hfH]
      rw [← hfm] at cm
      unfold byteV at cm
      by_cases h48 : f m = 48
      · rw [h48] at cm
        have hnx : Hid (trimN f n = trimN f m) := by rw [Hid, unhide ht', trimN, if_pos h48]
        clear hfm h48
        go_wp2
        go_roundw
        case rel => exact ⟨m, by omega, by go_num, by trivial, unhide hnx⟩
        case measure => simp [RowKit.intOf]
      · have h48' : ¬ (((f m).toNat : Int) = 48) := fun e => h48 (byte_eqI _ 48 e)
        have hz := hide (unhide hfin (m + 1) (by rw [unhide ht', trimN, if_neg h48]))
        clear hfm h48
        go_wp2
        go_ret2
        exact unhide hz

end Go.Proofs.Qxb6614069aDoor
