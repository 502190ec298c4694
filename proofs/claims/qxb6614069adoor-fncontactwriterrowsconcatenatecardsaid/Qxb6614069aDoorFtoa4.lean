import Derived.Test.Qxb6614069aDoorFtoa3
namespace Go.Proofs.Qxb6614069aDoor
open Go.RowKit Go.Lib

theorem bitLen53 (M : Nat) (h0 : 4503599627370496 ≤ M) (h1 : M < 9007199254740992) : Lib.bitLen M = 53 := by
  rw [Lib.bitLen_shift 52 M h0 (by omega), show M / 2 ^ 52 = 1 by omega]
  rfl

/-- How many digits are asked for, the power of ten, and the shift, by the float's exponent. -/
def fN (E : Nat) : Nat := if 1023 ≤ E then 3 + (E - 1022) * 78913 / 262144 else 3 - (1023 - E) * 78913 / 262144
def fP (E : Nat) : Nat := ((fN E : Int) - 1 - ((E : Int) - 1023) * 78913 / 262144).toNat
def fS (E : Nat) : Nat := (-((E : Int) - 1086 + (fP E : Int) * 108853 / 32768 + 3)).toNat

theorem fNPS_fin : ∀ i : Fin 62, 1 ≤ fN (1014 + i.val) ∧ fN (1014 + i.val) ≤ 18 ∧ (fP (1014 + i.val) = 2 ∨ fP (1014 + i.val) = 3) ∧ 2 ≤ fS (1014 + i.val) ∧ fS (1014 + i.val) < 64 ∧
    (fN (1014 + i.val) : Int) - 1 - (((1014 + i.val : Nat) : Int) - 1086 + 63) * 78913 / 262144 = (fP (1014 + i.val) : Int) ∧
    -(((1014 + i.val : Nat) : Int) - 1086 + (fP (1014 + i.val) : Int) * 108853 / 32768 + 3) = (fS (1014 + i.val) : Int) := by decide +kernel

structure NPS (E n p s : Nat) : Prop where
  n1 : 1 ≤ n
  n2 : n ≤ 18
  pp : p = 2 ∨ p = 3
  s1 : 2 ≤ s
  s2 : s < 64
  pe : (n : Int) - 1 - ((E : Int) - 1086 + 63) * 78913 / 262144 = (p : Int)
  se : -((E : Int) - 1086 + (p : Int) * 108853 / 32768 + 3) = (s : Int)

theorem nps (E : Nat) (h0 : 1014 ≤ E) (h1 : E ≤ 1075) : NPS E (fN E) (fP E) (fS E) := by
  have h := fNPS_fin ⟨E - 1014, by omega⟩
  have e : 1014 + (E - 1014) = E := by omega
  simp only [e] at h
  obtain ⟨a1, a2, a3, a4, a5, a6, a7⟩ := h
  exact ⟨a1, a2, a3, a4, a5, a6, a7⟩

theorem uround_le (x : Nat) : uround x ≤ x + 1 := by unfold uround; omega

theorem fixU_lt (m p n s : Nat) (hm : m < 18446744073709551616) (hs : 2 ≤ s) : (fixU m p n s).1 < 9223372036854775808 := by
  have h1 := usc_lt m (p10hi p) s hm (by unfold p10hi; split <;> decide) hs
  have h2 : (fixA m p n s).1 < 4611686018427387906 := by
    unfold fixA
    split
    · have := udiv10_le (usc m (p10hi p) s)
      show udiv10 _ < _
      omega
    · exact h1
  have h3 : (fixC (fixA m p n s)).1 < 4611686018427387907 := by
    unfold fixC
    split
    · have := udiv10_le (fixA m p n s).1
      show udiv10 _ < _
      omega
    · omega
  have h4 := uround_le (fixC (fixA m p n s)).1
  show uround _ < _
  omega

theorem fixU_p (m p n s : Nat) (hp : p = 2 ∨ p = 3) : (fixU m p n s).2 ≤ 2 := by
  have h2 : (fixA m p n s).2 ≤ 3 := by unfold fixA; split <;> simp <;> omega
  show (fixC (fixA m p n s)).2 ≤ 2
  unfold fixC
  split
  · show (fixA m p n s).2 - 1 ≤ 2; omega
  · omega

/-- The digits of d without the zeros at its end. -/
def digs (d : Nat) : List UInt8 := (List.range (trimN (digF d) (nDigits d))).map (digF d)

theorem digs_length (d : Nat) : (digs d).length = trimN (digF d) (nDigits d) := by simp [digs]

theorem trimN_le (f : Nat → UInt8) : ∀ n, trimN f n ≤ n
  | 0 => Nat.le_refl _
  | n + 1 => by
    unfold trimN
    split
    · have := trimN_le f n; omega
    · exact Nat.le_refl _

theorem trimN_pos (d : Nat) (h : 1 ≤ d) : 1 ≤ trimN (digF d) (nDigits d) := by
  obtain ⟨N', t, h1, h2, h3, _⟩ := trim_law (nDigits d) d (digF d) h rfl (fun j _ => rfl)
  rw [h3]; exact nDigits_pos N'

theorem digs_dig (d : Nat) : ∀ c ∈ digs d, isDig c := by
  intro c hc
  obtain ⟨j, _, rfl⟩ := List.mem_map.1 hc
  unfold digF isDig
  rw [dg_toNat]
  omega

/-- What the middling floats print. -/
def fastText (S : Bool) (u : Nat × Nat) : List UInt8 := if u.1 = 0 then efText S [] 0 else efText S (digs u.1) ((nDigits u.1 : Int) + -(u.2 : Int))

theorem fast_efg (v : Value) (L : List UInt8) (w : World) (hown : w.ownsRow 0 5 1 v L.length (L.map byteV)) (hL : L.length ≤ 1048576) (S : Bool) (B d : Nat) (dp : Int) (hd : 1 ≤ d) (hd2 : d < 18446744073709551616) (hd0 : -10 ≤ dp) (hd1 : dp ≤ 30) (hv : v.ownBlock ≠ some B)
    (hB : B < w.heap.size) (hc : ∀ j, j < nDigits d → w.cell? ⟨B, j, none⟩ = some (byteV (digF d j))) :
    Calls Tryd.prog 46 #[v, .bool S, .slice (some ⟨B, 0, none⟩) 24 24, .int .i64 dp, .int .i64 (trimN (digF d) (nDigits d) : Nat), .int .i64 2, .int .u8 102, .bool false] w (AppP w v (L ++ efText S (digs d) dp)) := by
  have h20 := nDigits_le20 d hd2
  have ht := trimN_le (digF d) (nDigits d)
  have hp := trimN_pos d hd
  rw [← digs_length]
  rw [← digs_length] at ht hp
  refine fmtEFG_any v L w hown hL S (some ⟨B, 0, none⟩) 24 24 (digs d) dp (by omega) (by omega) (by omega) (by omega) (by omega) (fun _ e => by rw [e] at hp; simp at hp) (fun wr hwr j c hj => ?_)
  refine ⟨B, rfl, ?_⟩
  have hjl : j < (digs d).length := (List.getElem?_eq_some_iff.1 hj).1
  rw [World.cell?_of_block (a := ⟨B, j, none⟩) (hwr.block B hB (fun e => hv e.symm)), hc j (by omega)]
  unfold digs at hj
  rw [List.getElem?_map, List.getElem?_range (by rw [← digs_length]; exact hjl)] at hj
  simp only [Option.map_some, Option.some.injEq] at hj
  rw [hj]

set_option maxRecDepth 100000 in
set_option maxHeartbeats 8000000 in
theorem ftoa_fast (b : Nat) (hb : b < 18446744073709551616) (hE1 : 1014 ≤ fExp b) (hE2 : fExp b ≤ 1075) (v : Value) (L : List UInt8) (w : World) (hown : w.ownsRow 0 5 1 v L.length (L.map byteV)) (hL : L.length ≤ 1048576) (c2 : w.cell? ⟨2, 0, none⟩ = some (.bool true))
    (hT : ∀ wr, w.grownBy wr none → P10 wr ∧ PowC wr ∧ PowTab wr) :
    Calls Tryd.prog 36 #[v, .float .f64 b, .int .u8 102, .int .i64 2] w (AppP w v (L ++ fastText (fNeg b) (fixU ((fMan b + 4503599627370496) * 2048) (fP (fExp b)) (fN (fExp b)) (fS (fExp b))))) := by
  obtain ⟨p1, p2, p3⟩ := parts b hb
  have hA := hide (AppR.refl hown)
  have h43 := f43_run b
  obtain ⟨F, hFd⟩ : ∃ F, F = fMan b := ⟨_, rfl⟩
  obtain ⟨S, hSd⟩ : ∃ S, S = fNeg b := ⟨_, rfl⟩
  obtain ⟨E, hEd⟩ : ∃ E, E = fExp b := ⟨_, rfl⟩
  rw [← hFd] at p3
  rw [← hSd] at p1
  rw [← hEd] at p2 hE1 hE2
  have hF52 : F < 4503599627370496 := by rw [hFd]; unfold fMan; omega
  rw [← hSd, ← hFd, ← hEd]
  have pM := man_or F hF52
  obtain ⟨M, hM⟩ : ∃ M, M = F + 4503599627370496 := ⟨_, rfl⟩
  rw [← hM] at pM ⊢
  have hM1 : 4503599627370496 ≤ M := by omega
  have hM2 : M < 9007199254740992 := by omega
  have hMI : ¬ ((M : Int) = 0) := by omega
  have hEn0 : ¬ ((E : Int) = 0) := by omega
  have hEn1 : ¬ ((E : Int) = 2047) := by omega
  have hnps := nps E hE1 hE2
  have hfn : fN E = if 1023 ≤ E then 3 + (E - 1022) * 78913 / 262144 else 3 - (1023 - E) * 78913 / 262144 := rfl
  obtain ⟨n, hn⟩ : ∃ n, n = fN E := ⟨_, rfl⟩
  obtain ⟨p, hp⟩ : ∃ p, p = fP E := ⟨_, rfl⟩
  obtain ⟨s, hs⟩ : ∃ s, s = fS E := ⟨_, rfl⟩
  rw [← hn, ← hp, ← hs] at hnps
  rw [← hn] at hfn
  rw [← hn, ← hp, ← hs]
  clear hn hp hs
  have hm64 : M * 2048 < 18446744073709551616 := by omega
  obtain ⟨n1, n2, hp, s1, s2, hpe, hse⟩ := hnps
  have hult := fixU_lt (M * 2048) p n s hm64 s1
  have hup := fixU_p (M * 2048) p n s hp
  have HF : Hid (∀ wx X Y Z, Z = ((M * 2048 : Nat) : Int) → X = (E : Int) - 1086 → Y = (n : Int) → w.grownBy wx none → Calls Tryd.prog 49 #[.int .u64 Z, .int .i64 X, .int .i64 Y, .int .i64 2, .int .u8 102] wx fun en w' => en = .returned (.tuple #[.int .u64 ((fixU (M * 2048) p n s).1 : Nat), .int .i64 (-((fixU (M * 2048) p n s).2 : Nat))]) ∧ wx.grownBy w' none) := fun wx X Y Z hZ hX hY hg => by
    subst hX; subst hY; subst hZ
    exact fixed_any wx (M * 2048) n p s _ hm64 n1 n2 (by omega) (by omega) hp hpe s1 s2 hse (fun wr hwr => ⟨(hT wr (grownBy_then hg hwr (.inl rfl))).1, (hT wr (grownBy_then hg hwr (.inl rfl))).2.1⟩)
  have HLen : Hid (∀ wx, Calls Tryd.prog 38 #[.int .u64 M] wx fun e w' => e = .returned (.int .i64 53) ∧ w' = wx) := fun wx => by
    have h := Tryd.bits_Len64 (M : Int) wx (by omega) (by omega)
    rw [Int.toNat_natCast, bitLen53 M hM1 hM2] at h
    exact h
  have hTab : Hid (∀ wr, w.grownBy wr none → PowTab wr) := fun wr h => (hT wr h).2.2
  obtain ⟨u, hu⟩ : ∃ u, u = fixU (M * 2048) p n s := ⟨_, rfl⟩
  rw [← hu] at hult hup HF ⊢
  obtain ⟨d, pp⟩ := u
  simp only at hult hup HF
  obtain ⟨q, hq, hqn, hq0, hq16⟩ : ∃ q : Int, (q = if 1023 ≤ E then ((E : Int) - 1022) * 78913 / 262144 else ((1023 : Int) - E) * 78913 / 262144) ∧ (n : Int) = (if 1023 ≤ E then 3 + q else 3 - q) ∧ 0 ≤ q ∧ q ≤ 15 := by
    refine ⟨_, rfl, ?_, ?_, ?_⟩
    · rw [hfn]; split <;> omega
    · split <;> omega
    · split <;> omega
  have HL : Hid (∀ m X, (X = if 1023 ≤ E then (E : Int) - 1022 else (1023 : Int) - E) → Calls Tryd.prog 37 #[.int .i64 X] (w.drewN m) fun e w' => e = .returned (.int .i64 q) ∧ w' = w.drewN m) := fun m X hX => by
    have : q = X * 78913 / 262144 := by rw [hq, hX]; split <;> rfl
    rw [this]
    exact log10_any _ (by rw [hX]; split <;> omega) (by rw [hX]; split <;> omega) (w.drewN m)
  have hvD : Hid (v.ownBlock ≠ some w.heap.size) := fun e => by have := (hown.lt _ e).2; omega
  have hB0 : Hid (∀ m, Buf24 ((w.drewN m).alloc (.cells Lib.zeros24 77)) w.heap.size (fun _ => 0)) := fun m => ⟨fun j hj => by
    rw [show w.heap.size = (w.drewN m).heap.size from rfl, World.cell?_alloc_new, zeros24_at _ hj]; rfl, fun j => World.frozen?_alloc_new _ _ _ _⟩
  have hgA : Hid (∀ m, w.grownBy ((w.drewN m).alloc (.cells Lib.zeros24 77)) none) := fun m => grownBy_then (grownBy_drew w m _) (World.grownBy_alloc _ _ _) (.inl rfl)
  have hszA : Hid (∀ m, ((w.drewN m).alloc (.cells Lib.zeros24 77)).heap.size = w.heap.size + 1) := fun m => size_alloc' _ _
  have hown' := hide hown
  obtain ⟨T, hTt⟩ : ∃ T, T = L ++ fastText S (d, pp) := ⟨_, rfl⟩
  rw [← hTt]
  have hTt' := hide hTt
  have hqE : Hid ((n : Int) = (if 1023 ≤ E then 3 + q else 3 - q)) := hqn
  have hE0 : Hid (∀ wx, w.grownBy wx none → Calls Tryd.prog 46 #[v, .bool S, .slice (some ⟨w.heap.size, 0, none⟩) 24 24, .int .i64 0, .int .i64 0, .int .i64 2, .int .u8 102, .bool false] wx (AppP wx v (L ++ efText S [] 0))) := fun wx hg =>
    fmtEFG_any v L wx (((AppR.refl (unhide hown')).quiet hg).own) hL S _ 24 24 [] 0 (by simp) (by omega) (by omega) (by omega) (by omega) (by omega) (fun wr hwr j c hj => by simp at hj)
  clear hFd hSd hEd hM hq hfn hpe hse hT hown hTt hqn hu
  have hx : 1023 ≤ E ∨ ¬ 1023 ≤ E := by omega
  rcases hx with hx | hx
  all_goals
    have hq2 : (0 : Int) < n := by omega
    have hq3 := unhide hqE
    first | rw [if_pos hx] at hq3 | rw [if_neg hx] at hq3
    have hq4 : (0 : Int) < 1 + 2 - q ∨ 1023 ≤ E := by omega
    go_enter Tryd.func36, Tryd.ntmps36
    go_wp2
    go_quiet (fail)
    go_wp2_with fail
    refine (unhide HL nq _ ?_).mono ?_
    · first | (rw [if_pos hx]; omega) | (rw [if_neg hx]; omega)
    rintro e w' ⟨rfl, hw⟩
    replace hw := hw.symm
    subst hw
    go_wp2_with fail
    refine (unhide HLen _).mono ?_
    rintro e w' ⟨rfl, hw⟩
    replace hw := hw.symm
    subst hw
    go_wp2_with fail
    refine (unhide HF _ _ _ _ ?_ ?_ ?_ (unhide hgA nq)).mono ?_
    · omega
    · omega
    · have := unhide hqE
      first | (rw [if_pos hx] at this; omega) | (rw [if_neg hx] at this; omega)
    rintro en w5 ⟨rfl, hg5⟩
    have hg5' := hide (grownBy_then (unhide hgA nq) hg5 (.inl rfl))
    have hB5 := hide ((unhide hB0 nq).keep hg5 (by simp))
    have hsz5 : Hid (w.heap.size < w5.heap.size) := by have h1 := hg5.size; rw [unhide hszA] at h1; rw [Hid]; omega
    clear hg5 HF HLen HL
    by_cases hd0 : d = 0
    · subst hd0
      have HE := hide (unhide hE0 w5 (unhide hg5'))
      rw [show L ++ efText S [] 0 = T from (by rw [unhide hTt']; rfl)] at HE
      go_wp2_with fail
      refine (unhide HE).mono ?_
      rintro e w6 ⟨v', rfl, hA6⟩
      have hA6' := hide (((unhide hA).quiet (unhide hg5')).trans hA6)
      clear hA6
      go_wp2
      go_ret
      exact ⟨_, rfl, unhide hA6'⟩
    · have hd1 : 1 ≤ d := by omega
      have hd0I : ¬ ((d : Int) = 0) := by omega
      have hd64 : d < 18446744073709551616 := by omega
      have h20 := nDigits_le20 d hd64
      have HND : Hid (∀ m, Calls Tryd.prog 32 #[.int .u64 d] (w5.drewN m) fun e w' => e = .returned (.int .i64 (nDigits d : Nat)) ∧ w' = w5.drewN m) := fun m =>
        Tryd.internal_strconv_numDigits d hd1 hd64 (w5.drewN m) (unhide hTab _ (grownBy_then (unhide hg5') (grownBy_drew w5 m _) (.inl rfl)))
      have HSD : Hid (∀ m, Calls Tryd.prog 48 #[.slice (some ⟨w.heap.size, 0, none⟩) 24 24, .int .u64 d, .int .i64 (-(pp : Int)), .int .i64 (nDigits d : Nat)] (w5.drewN m) (SetP (w5.drewN m) w.heap.size d (-(pp : Int)))) := fun m =>
        setDigits_any (w5.drewN m) w.heap.size d (-(pp : Int)) hd64 (by omega) (by omega) ((unhide hB5).keep (grownBy_drew w5 m none) (by simp))
      obtain ⟨nd, hnd⟩ : ∃ nd, nd = nDigits d := ⟨_, rfl⟩
      obtain ⟨nt, hnt⟩ : ∃ nt, nt = trimN (digF d) (nDigits d) := ⟨_, rfl⟩
      obtain ⟨dp, hdp⟩ : ∃ dp : Int, dp = (nDigits d : Int) + -(pp : Int) := ⟨_, rfl⟩
      have HE : Hid (∀ wx, w5.grownBy wx (some w.heap.size) → (∀ j, j < nDigits d → wx.cell? ⟨w.heap.size, j, none⟩ = some (byteV (digF d j))) → Calls Tryd.prog 46 #[v, .bool S, .slice (some ⟨w.heap.size, 0, none⟩) 24 24, .int .i64 dp, .int .i64 nt, .int .i64 2, .int .u8 102, .bool false] wx (AppP wx v T)) := fun wx hg hc => by
        have h := fast_efg v L wx (((((AppR.refl (unhide hown')).quiet (unhide hg5')).own).kept hg (.inr (unhide hvD)))) hL S w.heap.size d dp hd1 hd64 (by omega) (by omega) (unhide hvD) (Nat.lt_of_lt_of_le (unhide hsz5) hg.size) hc
        rw [hdp, ← hnt] at h
        rw [hdp, unhide hTt']
        unfold fastText
        rw [if_neg hd0]
        exact h
      have hSD2 : Hid (∀ m e w', SetP (w5.drewN m) w.heap.size d (-(pp : Int)) e w' → e = .returned (.tuple #[.int .i64 dp, .int .i64 nt]) ∧ (∀ j, j < nDigits d → w'.cell? ⟨w.heap.size, j, none⟩ = some (byteV (digF d j))) ∧ w5.grownBy w' (some w.heap.size)) := fun m e w' h => by
        obtain ⟨h1, h2, h3⟩ := h
        exact ⟨by rw [h1, hdp, hnt], h2, grownBy_then (grownBy_drew w5 m _) h3 (.inl rfl)⟩
      rw [← hnd] at HND HSD h20
      have hnd' := hide hnd
      clear hnd hnt hdp hE0
      go_upto_region 74 with fail
      go_cut [26, 27] from 228 to 237 (fun a1 a2 wx => a1 = .int .i64 dp ∧ a2 = .int .i64 nt ∧ w5.grownBy wx (some w.heap.size) ∧ ∀ j, j < nDigits d → wx.cell? ⟨w.heap.size, j, none⟩ = some (byteV (digF d j)))
      case first =>
        go_region_held3 (fun _ => True) (exact trivial)
          (first
            | (go_at_call 32; refine (unhide HND 1).mono ?_; rintro en w6 ⟨rfl, hw⟩; replace hw := hw.symm; subst hw)
            | (go_at_call 48; refine (unhide HSD 1).mono ?_; rintro en w7 hS7; obtain ⟨rfl, k1, k2⟩ := unhide hSD2 _ _ _ hS7; have k1' := hide k1; have k2' := hide k2; clear k1 k2 hS7))
        go_wp2
        go_meet
        case rel => exact ⟨rfl, rfl, unhide k2', unhide k1'⟩
      case rest =>
        obtain ⟨rfl, rfl, k2, k1⟩ := hcut
        have HE6 := hide (unhide HE wc k2 k1)
        have hgw : Hid (w.grownBy wc v.ownBlock) := ⟨k2.os.trans (unhide hg5').os, k2.tape.trans (unhide hg5').tape, k2.output.trans (unhide hg5').output, Nat.le_trans (unhide hg5').size k2.size, fun j hj _ => by
          rw [k2.block j (Nat.lt_of_lt_of_le hj (unhide hg5').size) (by simp; omega), (unhide hg5').block j hj (by simp)]⟩
        clear HE HND HSD hSD2 k1 k2
        go_wp2_with fail
        refine (unhide HE6).mono ?_
        rintro e w8 ⟨v', rfl, hA8⟩
        have hA8' := hide hA8
        clear hA8
        go_wp2
        go_ret
        refine ⟨_, rfl, ?_⟩
        have h4 := unhide hA8'
        refine ⟨h4.own, grownBy_then (unhide hgw) h4.grown (.inl rfl), ?_⟩
        rcases h4.at_ with e | ⟨k, e, hk⟩
        · exact .inl e
        · exact .inr ⟨k, e, Nat.le_trans (unhide hgw).size hk⟩

end Go.Proofs.Qxb6614069aDoor
