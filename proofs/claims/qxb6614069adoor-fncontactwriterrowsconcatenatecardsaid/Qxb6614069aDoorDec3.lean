import Derived.Test.Qxb6614069aDoorDec2
namespace Go.Proofs.Qxb6614069aDoor
open Go.RowKit Go.Lib

/-- The table of the left shift, as it lies in memory. -/
def Cheats (w : World) : Prop := ∃ C o c, 61 ≤ c ∧ w.cell? ⟨6, 0, none⟩ = some (.slice (some ⟨C, o, none⟩) 61 c) ∧
  ∀ k d s, Go.Pinned.cheatRows[k]? = some (d, s) → w.cell? ⟨C, o + k * 2, none⟩ = some (.int .i64 (d : Nat)) ∧ w.cell? ⟨C, o + k * 2 + 1, none⟩ = some (.string ⟨s.toArray⟩)

/-- What a shift leaves. -/
def ShP (w : World) (D V b : Nat) (e : Ending) (w' : World) : Prop := e = .returned (.tuple #[]) ∧ DN w' D V b ∧ w.grownBy w' (some D)

set_option maxRecDepth 100000 in
set_option maxHeartbeats 4000000 in
theorem leftShift_any (w : World) (D V b k : Nat) (h : DN w D V b) (hb : b ≤ 700) (h1 : 1 ≤ k) (hk : k ≤ 60) (hC : ∀ wr, w.grownBy wr (some D) → Cheats wr) : Calls Tryd.prog 68 #[.pointer (some ⟨D, 0, none⟩), .int .u64 k] w (ShP w D (V * 2 ^ k) (b + 20)) := by
  obtain ⟨N, t, f, hV, hN, hnb, hD, hf⟩ := h
  obtain ⟨d, s, hrow, p1, p2, p3, p4, p5, p6⟩ := cheat_row h1 hk
  obtain ⟨C, o, c, hc61, cg, hrows⟩ := hC w (grownBy_refl _ _)
  obtain ⟨cd, cs⟩ := hrows k d s hrow
  have hlaw := shift_digits (N := N) hN h1 p1 p2 p3 p4 p5 p6
  have hd60 : d ≤ 60 := by
    have : 1 ≤ s.length := by
      cases s with
      | nil => simp at p4
      | cons => simp
    omega
  have hsl : s.length ≤ 61 := by omega
  obtain ⟨n, hn⟩ : ∃ n, n = nDigits N := ⟨_, rfl⟩
  obtain ⟨M, hM⟩ : ∃ M, M = N * 2 ^ k := ⟨_, rfl⟩
  rw [← hn] at hD hf hnb hlaw
  rw [← hM] at hlaw
  have c800 := hD.nd
  have c801 := hD.dp
  have z800 := hD.frz 800
  have z801 := hD.frz 801
  have hdl : (decDigits N).length = n := by rw [decDigits_length, hn]
  have HP := hide ((fun nq => prefixLess_any (w.drewN nq) D (decDigits N) 800 ⟨s.toArray⟩ (by simp [ByteArray.size]; omega) (fun j x hj => by
    have hjl := (List.getElem?_eq_some_iff.1 hj).1
    rw [hdl] at hjl
    rw [World.cell?_drewN, hD.dig j (by omega), hf j hjl]
    rw [decDigits_eq, List.getElem?_map, List.getElem?_range (by rw [← hn]; exact hjl)] at hj
    simp only [Option.map_some, Option.some.injEq] at hj
    rw [← hj, hn])))
  rw [hdl] at HP
  have hs0 : (⟨s.toArray⟩ : ByteArray).data.toList = s := rfl
  rw [hs0] at HP
  obtain ⟨B, hBd⟩ : ∃ B, B = pl (decDigits N) s := ⟨_, rfl⟩
  rw [← hBd] at HP hlaw
  obtain ⟨ba, hba⟩ : ∃ ba : ByteArray, ba = ⟨s.toArray⟩ := ⟨_, rfl⟩
  rw [← hba] at HP cs
  have hn800 : n ≤ 800 := by omega
  have hD' := hide hD
  have hf' := hide hf
  have hlaw' := hide hlaw
  clear hBd hD hf hlaw hrow p1 p2 p3 p4 p5 p6 hC hrows hs0 hdl hsl hba
  have hnM : n ≤ nDigits M := by
    have h2 := pow_nDigits_le N hN
    rw [← hn] at h2
    have h3 : N ≤ M := by rw [hM]; exact Nat.le_mul_of_pos_right _ (Nat.pow_pos (by decide))
    have h4 := lt_nd_of_le (Nat.le_trans h2 h3)
    omega
  obtain ⟨dl, hdl⟩ : ∃ dl, nDigits M = n + dl := ⟨nDigits M - n, by omega⟩
  have hdle : Hid ((d : Int) - (if B then 1 else 0) = (dl : Int)) := by
    have := unhide hlaw'
    unfold Hid
    cases B <;> simp at this ⊢ <;> omega
  have hdl60 : dl ≤ 60 := by
    have := unhide hdle
    unfold Hid at this
    split at this <;> omega
  have hdl19 : dl ≤ 20 := by
    have h3 : M < 10 ^ (n + 20) := by
      have h4 := lt_pow_nDigits N
      rw [← hn] at h4
      rw [hM, Nat.pow_add]
      have h5 : 2 ^ k ≤ 2 ^ 60 := Nat.pow_le_pow_right (n := 2) (by decide) hk
      have h6 : N * 2 ^ k ≤ N * 2 ^ 60 := Nat.mul_le_mul_left _ h5
      have h7 : N * 2 ^ 60 < 10 ^ n * 10 ^ 20 := Nat.lt_of_lt_of_le (Nat.mul_lt_mul_of_pos_right h4 (by decide)) (Nat.mul_le_mul_left _ (by decide))
      omega
    have hM1 : 1 ≤ M := by rw [hM]; exact Nat.mul_pos hN (Nat.pow_pos (by decide))
    have := nd_le_of_lt hM1 h3
    omega
  have hM1 : 1 ≤ M := by rw [hM]; exact Nat.mul_pos hN (Nat.pow_pos (by decide))
  have hVM : Hid (V * 2 ^ k = M * 10 ^ t) := by rw [Hid, hV, hM, Nat.mul_right_comm]
  have hal : Tryd.prog.arrayLen 106 = 800 := by simp [Program.arrayLen, Tryd.underlying106]
  have hsl : ∀ W, (Instr.sliceAt 106 (.pointer (some ⟨D, 0, none⟩)) (some (.int .i64 0)) (some (.int .i64 (n : Int))) none).run Tryd.prog W = .ok (.slice (some ⟨D, 0, none⟩) n 800) W := fun W => by
    rw [run_sliceAt_array_lh W 106 ⟨D, 0, none⟩ (by simp [Program.arrayLen, Program.elem, Tryd.underlying106]) .i64 .i64 0 (n : Int) (by omega) (by omega) (by rw [hal]; omega)]
    simp only [hal]
    go_simp
  clear hal
  have hn' := hide hn
  have hM' := hide hM
  have hdl' := hide hdl
  clear hn hM hdl hnM
  go_enter Tryd.func68, Tryd.ntmps68
  go_wp2
  go_quiet (first | (go_at_call 76; refine Calls.quiet_of (unhide HP _)))
  go_upto_if 30 with fail
  go_cut [4] from 31 to 32 (fun dv wx => dv = .int .i64 (dl : Int) ∧ wx = w.drewN nq)
  case first =>
    have hq := unhide hdle
    cases B
    · simp only [Bool.false_eq_true, if_false, Int.sub_zero] at hq
      go_wp2
      go_meet
      case rel => exact ⟨by rw [hq], rfl⟩
    · simp only [if_true] at hq
      go_wp2
      go_meet
      case rel => exact ⟨rfl, rfl⟩
  case rest =>
    obtain ⟨rfl, hw⟩ := hcut
    subst hw
    obtain ⟨w0, hw0⟩ : ∃ w0, w0 = w.drewN nq := ⟨_, rfl⟩
    have g0 : Hid (w.grownBy w0 (some D)) := by rw [hw0]; exact grownBy_drew _ _ _
    have hD0 := (unhide hD').keep (w' := w0) (r := none) (by rw [hw0]; exact grownBy_drew _ _ _) (by simp)
    rw [← hw0]
    have e800 := hD0.nd
    have e801 := hD0.dp
    have hD0' := hide hD0
    clear hD0 hw0 HP cg cd cs c800 c801 z800 z801
    go_wp2
    go_loopw [5, 6, 7] (fun rv wv av wr => ∃ i : Nat, i ≤ n ∧ rv = .int .i64 ((n : Int) - 1 - (i : Int)) ∧ wv = .int .i64 ((n + dl - i : Nat) : Int) ∧ av = .int .u64 (carry N k i : Nat) ∧
      (∃ g, Dec wr D g n ((n + t : Nat) : Int) ∧ (∀ j, j < n - i → g j = f j) ∧ (∀ j, n + dl - i ≤ j → j < n + dl → g j = dg M (n + dl - 1 - j))) ∧ w.grownBy wr (some D)) (fun rv _ _ _ => (RowKit.intOf rv + 1).toNat)
    case atStart =>
      refine ⟨0, Nat.zero_le _, by go_num, by simp, by rw [carry_zero]; rfl, ⟨f, unhide hD0', fun _ _ => rfl, fun j h1 h2 => by omega⟩, unhide g0⟩
    case round =>
      clear hD0' g0 e800 e801
      obtain ⟨i, hi, rfl, rfl, rfl, ⟨g, hR, hg1, hg2⟩, hgr⟩ := hrel
      by_cases hlt : i < n
      · obtain ⟨r, hr⟩ : ∃ r, r = n - 1 - i := ⟨_, rfl⟩
        have er : (n : Int) - 1 - (i : Int) = (r : Int) := by omega
        rw [er]
        obtain ⟨x, hx⟩ : ∃ x, x = N / 10 ^ i % 10 := ⟨_, rfl⟩
        obtain ⟨ca, hca⟩ : ∃ ca, ca = carry N k i := ⟨_, rfl⟩
        obtain ⟨W, hW⟩ : ∃ W, W + 1 = n + dl - i := ⟨n + dl - i - 1, by omega⟩
        rw [← hca, ← hW]
        have cr := hR.dig r (by omega)
        rw [hg1 r (by omega), unhide hf' r (by omega), show n - 1 - r = i by omega] at cr
        have ecr : byteV (dg N i) = .int .u8 ((x : Int) + 48) := by
          unfold byteV; rw [dg_toNat, ← hx]; congr 1; omega
        rw [ecr] at cr
        have hx9 : x ≤ 9 := by rw [hx]; omega
        have cW := hR.dig W (by omega)
        have zW := hR.frz W
        have hcal : ca < 2 ^ k := by rw [hca]; exact carry_lt _ _ _
        have h2k : 2 ^ k ≤ 1152921504606846976 := Nat.pow_le_pow_right (n := 2) (by decide) hk
        have hR' := hide hR
        have hr' := hide hr
        have hx' := hide hx
        have hca' := hide hca
        have hW' := hide hW
        have hg1' := hide hg1
        have hg2' := hide hg2
        have hgr' := hide hgr
        have hr8 : r < 800 := by omega
        have hW8 : W < 800 := by omega
        obtain ⟨xp, hxp⟩ : ∃ xp, xp = x * 2 ^ k := ⟨_, rfl⟩
        have hxpl : xp ≤ 9 * 2 ^ k := by rw [hxp]; exact Nat.mul_le_mul_right _ hx9
        have e59 : IntKind.u64.wrap ((x : Int) * 2 ^ k) = (xp : Int) := by
          have e : (x : Int) * 2 ^ k = (xp : Int) := by rw [hxp]; push_cast; rfl
          rw [e, IntKind.wrap_u64]; omega
        obtain ⟨y, hy⟩ : ∃ y, y = ca + xp := ⟨_, rfl⟩
        have hyl : y < 10 * 2 ^ k := by omega
        have hy63 : y ≤ 11529215046068469760 := by omega
        have ey : (ca : Int) + (xp : Int) = (y : Int) := by omega
        obtain ⟨q, hq⟩ : ∃ q, q = y / 10 := ⟨_, rfl⟩
        obtain ⟨rr, hrr⟩ : ∃ rr, rr = y % 10 := ⟨_, rfl⟩
        have eq1 : (y : Int) / 10 = (q : Int) := by omega
        have er1 : (y : Int) - 10 * (q : Int) = (rr : Int) := by omega
        have hr9 : rr ≤ 9 := by omega
        have hqc : Hid (q = carry N k (i + 1)) := by
          rw [Hid, hq, hy, hca, hxp, hx, carry_next]
        have hdg : Hid (Value.int .u8 ((rr : Int) + 48) = byteV (dg M i)) := by
          unfold Hid byteV
          rw [dg_toNat, unhide hM', ← carry_digit, ← hx, ← hca, ← hxp, ← hy, ← hrr]
          congr 1; omega
        have hq64 : q ≤ 1152921504606846976 := by omega
        have hR3 := hide ((unhide hR').setDig hW8 (dg M i))
        have hgr3 := hide (grown_set (i := W) (v := byteV (dg M i)) (unhide hgr'))
        have hg1n : Hid (∀ j, j < n - (i + 1) → upd g W (dg M i) j = f j) := fun j hj => by
          unfold upd
          rw [if_neg (by omega)]
          exact unhide hg1' j (by omega)
        have hg2n : Hid (∀ j, n + dl - (i + 1) ≤ j → j < n + dl → upd g W (dg M i) j = dg M (n + dl - 1 - j)) := fun j hj hj2 => by
          unfold upd
          by_cases e : j = W
          · rw [if_pos e, e]; congr 1; omega
          · rw [if_neg e]; exact unhide hg2' j (by omega) hj2
        clear hR ecr hr hx hca hW hg1 hg2 hgr er hxp hxpl hy hyl hq hrr hcal h2k
        go_wp2
        rw [unhide hdg]
        go_roundw
        case rel =>
          refine ⟨i + 1, by omega, ?_, ?_, by rw [← unhide hqc], ⟨_, unhide hR3, unhide hg1n, unhide hg2n⟩, unhide hgr3⟩
          · have := unhide hr'; congr 1; omega
          · have := unhide hW'; congr 1; omega
        case measure => simp [RowKit.intOf]
      · have hie : i = n := by omega
        subst hie
        have eneg : (i : Int) - 1 - (i : Int) = -1 := by omega
        have edl : i + dl - i = dl := by omega
        rw [eneg, edl]
        have hcn : carry N k i = M / 10 ^ i := by
          rw [unhide hM']; exact carry_end N k i (by rw [unhide hn']; exact lt_pow_nDigits N)
        rw [hcn]
        have hR0 := hide hR
        have hgr0 := hide hgr
        have hgd0 : Hid (∀ j, i + dl - i ≤ j → j < i + dl → g j = dg M (i + dl - 1 - j)) := hg2
        clear hR hgr hg1 hg2 hcn eneg edl
        go_wp2
        obtain ⟨wq, rfl⟩ : ∃ q : World, q = wr := ⟨_, rfl⟩
        go_loopw [6, 7] (fun wv av wr => ∃ j : Nat, j ≤ dl ∧ wv = .int .i64 ((dl - j : Nat) : Int) ∧ av = .int .u64 ((M / 10 ^ (i + j) : Nat) : Int) ∧
          (∃ g, Dec wr D g i ((i + t : Nat) : Int) ∧ (∀ l, dl - j ≤ l → l < i + dl → g l = dg M (i + dl - 1 - l))) ∧ w.grownBy wr (some D)) (fun wv _ _ => (RowKit.intOf wv).toNat)
        case atStart =>
          refine ⟨0, Nat.zero_le _, rfl, rfl, ⟨g, unhide hR0, fun l h1 h2 => unhide hgd0 l (by omega) h2⟩, unhide hgr0⟩
        case round =>
          clear hR0 hgr0 hgd0
          obtain ⟨j, hj, rfl, rfl, ⟨g, hR, hgd⟩, hgr⟩ := hrel
          obtain ⟨y, hy⟩ : ∃ y, y = M / 10 ^ (i + j) := ⟨_, rfl⟩
          rw [← hy]
          have d800 := hR.nd
          have d801 := hR.dp
          have z800 := hR.frz 800
          have z801 := hR.frz 801
          have hyb : y ≤ 1152921504606846976 := by
            have h3 : M / 10 ^ i < 2 ^ k := by
              rw [unhide hM', ← carry_end N k i (by rw [unhide hn']; exact lt_pow_nDigits N)]; exact carry_lt _ _ _
            have h4 : y ≤ M / 10 ^ i := by
              rw [hy, Nat.pow_add, ← Nat.div_div_eq_div_mul]; exact Nat.div_le_self _ _
            have h2k : 2 ^ k ≤ 1152921504606846976 := Nat.pow_le_pow_right (n := 2) (by decide) hk
            omega
          by_cases hpos : 0 < y
          · have hjl : j < dl := by
              have h3 : 10 ^ (i + j) ≤ M := by
                rw [hy] at hpos
                exact (Nat.div_pos_iff.1 hpos).2
              have := lt_nd_of_le h3
              have := unhide hdl'
              omega
            obtain ⟨W, hW⟩ : ∃ W, W + 1 = dl - j := ⟨dl - j - 1, by omega⟩
            rw [← hW]
            have hW8 : W < 800 := by omega
            have cW := hR.dig W hW8
            have zW := hR.frz W
            obtain ⟨q, hq⟩ : ∃ q, q = y / 10 := ⟨_, rfl⟩
            obtain ⟨rr, hrr⟩ : ∃ rr, rr = y % 10 := ⟨_, rfl⟩
            have eq1 : (y : Int) / 10 = (q : Int) := by omega
            have er1 : (y : Int) - 10 * (q : Int) = (rr : Int) := by omega
            have hr9 : rr ≤ 9 := by omega
            have hqc : Hid (q = M / 10 ^ (i + (j + 1))) := by
              rw [Hid, hq, hy, Nat.div_div_eq_div_mul, ← Nat.pow_succ]; rfl
            have hdg : Hid (Value.int .u8 ((rr : Int) + 48) = byteV (dg M (i + j))) := by
              unfold Hid byteV
              rw [dg_toNat, ← hy, ← hrr]
              congr 1; omega
            have hq64 : q ≤ 1152921504606846976 := by omega
            have hR3 := hide (hR.setDig hW8 (dg M (i + j)))
            have hgr3 := hide (grown_set (i := W) (v := byteV (dg M (i + j))) hgr)
            have hg2n : Hid (∀ l, dl - (j + 1) ≤ l → l < i + dl → upd g W (dg M (i + j)) l = dg M (i + dl - 1 - l)) := fun l hl hl2 => by
              unfold upd
              by_cases e : l = W
              · rw [if_pos e, e]; congr 1; omega
              · rw [if_neg e]; exact hgd l (by omega) hl2
            have hW' := hide hW
            clear hR hgr hgd hq hrr hy hW
            go_wp2
            rw [unhide hdg]
            go_roundw
            case rel =>
              refine ⟨j + 1, by omega, ?_, by rw [← unhide hqc], ⟨_, unhide hR3, unhide hg2n⟩, unhide hgr3⟩
              have := unhide hW'; congr 1; omega
            case measure => simp [RowKit.intOf]
          · have hy0 : y = 0 := by omega
            have hje : j = dl := by
              have h3 : M < 10 ^ (i + j) := by
                rcases Nat.lt_or_ge M (10 ^ (i + j)) with h | h
                · exact h
                · have := Nat.div_pos h (Nat.pow_pos (by decide) : 0 < 10 ^ (i + j))
                  omega
              have := nd_le_of_lt hM1 h3
              have := unhide hdl'
              omega
            subst hje
            subst hy0
            have e0 : j - j = 0 := by omega
            rw [e0]
            have hnd : Hid (nDigits M = i + j) := hdl'
            have hR1 := hide ((hR.setNd (i + j)).setDp ((i + j + t : Nat) : Int))
            have hgr1 := hide (grown_set (i := 801) (v := .int .i64 ((i + j + t : Nat) : Int)) (grown_set (i := 800) (v := .int .i64 ((i + j : Nat) : Int)) hgr))
            have hgd' : Hid (∀ l, l < nDigits M → g l = dg M (nDigits M - 1 - l)) := fun l hl => by
              rw [unhide hnd] at hl ⊢
              exact hgd l (by omega) hl
            have HT : Hid (∀ x y : Int, x = ((i + j : Nat) : Int) → y = ((i + j + t : Nat) : Int) → Calls Tryd.prog 67 #[.pointer (some ⟨D, 0, none⟩)] ((wr.setCell ⟨D, 800, none⟩ (.int .i64 x)).setCell ⟨D, 801, none⟩ (.int .i64 y)) (TrimP ((wr.setCell ⟨D, 800, none⟩ (.int .i64 ((i + j : Nat) : Int))).setCell ⟨D, 801, none⟩ (.int .i64 ((i + j + t : Nat) : Int))) D g (i + j) ((i + j + t : Nat) : Int))) := by
              rintro x y rfl rfl
              exact trim_any _ D g (i + j) ((i + j + t : Nat) : Int) (unhide hR1) (by omega)
            have htb : t ≤ 700 := by omega
            have hij : i + j < 800 := by omega
            clear hR hgr hgd hy hdl' hdl60 e0
            go_wp2_with fail
            refine (unhide HT _ _ (by omega) (by omega)).mono ?_
            intro e w' hT
            have hfin : Hid (ShP w D (V * 2 ^ k) (b + 20) e w') := by
              have h2 := hT
              rw [← unhide hnd] at h2
              obtain ⟨a1, a2, a3⟩ := DN.trimmed (t := t) hM1 (b := b + 20) (by rw [unhide hnd]; omega) (unhide hgd') h2
              rw [unhide hnd] at a3
              exact ⟨a1, by rw [unhide hVM]; exact a2, grownBy_then (unhide hgr1) a3 (.inl rfl)⟩
            obtain ⟨he, -, -⟩ := hT
            subst he
            go_wp2
            go_end0
            exact unhide hfin

set_option maxRecDepth 100000 in
set_option maxHeartbeats 2000000 in
/-- (*decimal).Shift, to the left. -/
theorem shift_any (w : World) (D V K : Nat) (h : DN w D V 20) (h1 : 1 ≤ K) (hK : K ≤ 1020) (hC : ∀ wr, w.grownBy wr (some D) → Cheats wr) : Calls Tryd.prog 51 #[.pointer (some ⟨D, 0, none⟩), .int .i64 K] w (ShP w D (V * 2 ^ K) 400) := by
  obtain ⟨N, t, f, hV, hN, hnb, hD, hf⟩ := id h
  have c800 := hD.nd
  have hn1 := nDigits_pos N
  obtain ⟨n, hn⟩ : ∃ n, n = nDigits N := ⟨_, rfl⟩
  rw [← hn] at c800 hn1
  have hh := hide h
  have hC' := hide hC
  have hnz : ((n : Int) == 0) = false := by rw [beq_eq_false_iff_ne]; omega
  clear h hV hN hnb hD hf hC hn
  go_enter Tryd.func51, Tryd.ntmps51
  go_wp2
  rw [show decide (0 < K) = true from decide_eq_true (by omega)]
  go_loopw [1] (fun kv wr => ∃ s k : Nat, 1 ≤ k ∧ K = k + 60 * s ∧ kv = .int .i64 k ∧ DN wr D (V * 2 ^ (60 * s)) (20 + 20 * s) ∧ w.grownBy wr (some D)) (fun kv _ => (RowKit.intOf kv).toNat)
  case atStart => exact ⟨0, K, h1, by omega, rfl, by simpa using unhide hh, grownBy_refl _ _⟩
  case round =>
    clear hh
    obtain ⟨s, k, hk1, hKk, rfl, hR, hg⟩ := hrel
    have hs17 : s ≤ 16 := by omega
    by_cases hlt : 60 < k
    · have HL := hide (leftShift_any wr D _ _ 60 hR (by omega) (by omega) (by omega) (fun wx hx => unhide hC' wx (grownBy_then hg hx (.inl rfl))))
      have hg' := hide hg
      have hKk' := hide hKk
      have hk1k : k ≤ 1020 := by omega
      clear hR hg hKk
      go_wp2_with fail
      refine (unhide HL).mono ?_
      rintro e w' ⟨rfl, hR2, hg2⟩
      have hR2' := hide hR2
      have hg2' := hide hg2
      clear hR2 hg2
      go_wp2
      go_roundw
      case rel =>
        refine ⟨s + 1, k - 60, by omega, by have := unhide hKk'; omega, by congr 1; omega, ?_, grownBy_then (unhide hg') (unhide hg2') (.inl rfl)⟩
        have h2 := unhide hR2'
        rw [show V * 2 ^ (60 * s) * 2 ^ 60 = V * 2 ^ (60 * (s + 1)) by rw [Nat.mul_assoc, ← Nat.pow_add]; rfl] at h2
        exact h2
      case measure => simp [RowKit.intOf]; omega
    · have HL := hide (leftShift_any wr D _ _ k hR (by omega) hk1 (by omega) (fun wx hx => unhide hC' wx (grownBy_then hg hx (.inl rfl))))
      have hg' := hide hg
      have hKk' := hide hKk
      clear hR hg hKk
      go_wp2_with fail
      refine (unhide HL).mono ?_
      rintro e w' ⟨rfl, hR2, hg2⟩
      have hfin : Hid (ShP w D (V * 2 ^ K) 400 (.returned (.tuple #[])) w') := by
        refine ⟨rfl, ?_, grownBy_then (unhide hg') hg2 (.inl rfl)⟩
        obtain ⟨N, t, f, a1, a2, a3, a4, a5⟩ := hR2
        refine ⟨N, t, f, ?_, a2, by omega, a4, a5⟩
        rw [← a1, Nat.mul_assoc, ← Nat.pow_add, unhide hKk', Nat.add_comm]
      clear hR2 hg2
      go_wp2
      go_end0
      exact unhide hfin

set_option maxRecDepth 100000 in
set_option maxHeartbeats 2000000 in
/-- (*decimal).Round, where there is nothing to cut. -/
theorem round_any (w : World) (D n : Nat) (m : Int) (c800 : w.cell? ⟨D, 800, none⟩ = some (.int .i64 n)) (hm : (n : Int) ≤ m) (hm0 : 0 ≤ m) : Calls Tryd.prog 52 #[.pointer (some ⟨D, 0, none⟩), .int .i64 m] w fun e w' => e = .returned (.tuple #[]) ∧ w' = w := by
  go_enter Tryd.func52, Tryd.ntmps52
  go_wp2
  (try simp only [Exit.inBlock, Exit.then])
  refine bodyPost_ret (results_none rfl _ _ _) rfl ?_
  exact ⟨rfl, rfl⟩

end Go.Proofs.Qxb6614069aDoor
