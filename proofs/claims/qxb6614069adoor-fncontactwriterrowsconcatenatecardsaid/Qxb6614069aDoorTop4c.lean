import Derived.Test.Qxb6614069aDoorTop4b
namespace Go.Proofs.Qxb6614069aDoor
open Go.RowKit Go.Lib

set_option maxRecDepth 100000 in
set_option maxHeartbeats 16000000 in
theorem concat_small (w : World) (i : Ins) (xl : List Int) (a0 a1 a2 a3 a4 : Option Addr) (n0 n1 n2 n3 n4 c0 c1 c2 c3 c4 : Nat) (hE : Env4 w i xl a0 a1 a2 a3 a4)
    (l0 : n0 = xl.length) (l1 : n1 = i.xs.length) (l2 : n2 = i.xa.length) (l3 : n3 = i.xb.length) (l4 : n4 = i.xd.length)
    (s0 : n0 ≤ 8192) (s1 : n1 ≤ 8192) (s2 : n2 ≤ 8192) (s3 : n3 ≤ 8192) (s4 : n4 ≤ 8192) :
    Calls Tryd.prog 4 #[.slice a0 n0 c0, .slice a1 n1 c1, .slice a2 n2 c2, .slice a3 n3 c3, .slice a4 n4 c4] w fun e w' => e = .returned (.bool true) ∧ Below w.heap.size w w' := by
  have HZ := hide (zzB_any a0 a1 a2 a3 a4 n0 n1 n2 n3 n4 c0 c1 c2 c3 c4 w)
  have HN := hide (zzNew_any w)
  have hE' := hide hE
  have hl : Hid (n0 = xl.length ∧ n1 = i.xs.length ∧ n2 = i.xa.length ∧ n3 = i.xb.length ∧ n4 = i.xd.length) := ⟨l0, l1, l2, l3, l4⟩
  clear hE l0 l1 l2 l3 l4
  have s0I : ¬ (8192 : Int) < n0 := by omega
  have s1I : ¬ (8192 : Int) < n1 := by omega
  have s2I : ¬ (8192 : Int) < n2 := by omega
  have s3I : ¬ (8192 : Int) < n3 := by omega
  have s4I : ¬ (8192 : Int) < n4 := by omega
  go_enter Tryd.func4, Tryd.ntmps4
  go_wp2_with fail
  refine (unhide HZ).mono ?_
  rintro e w' ⟨bo, rfl, hw⟩
  replace hw := hw.symm
  subst hw
  clear HZ
  cases bo with
  | false =>
    go_wp2
    go_ret
    exact ⟨rfl, Below.refl _ _⟩
  | true =>
    go_upto_if 60 with fail
    go_cut [11] from 61 to 62 (fun v wx => ∃ m : Nat, v = .int .i64 m ∧ m ≤ n0 ∧ m ≤ n1 ∧ wx = w)
    case first =>
      by_cases h : n1 < n0
      · go_wp2
        go_meet
        case rel => exact ⟨n1, rfl, by omega, by omega, rfl⟩
      · go_wp2
        go_meet
        case rel => exact ⟨n0, rfl, by omega, by omega, rfl⟩
    case rest =>
    obtain ⟨m1, rfl, h10, h11, hw⟩ := hcut
    replace hw := hw.symm
    subst hw
    clear s0I s1I s2I s3I s4I
    go_upto_if 66 with fail
    go_cut [11] from 67 to 68 (fun v wx => ∃ m : Nat, v = .int .i64 m ∧ m ≤ n0 ∧ m ≤ n1 ∧ m ≤ n2 ∧ wx = w)
    case first =>
      by_cases h : n2 < m1
      · go_wp2
        go_meet
        case rel => exact ⟨n2, rfl, by omega, by omega, by omega, rfl⟩
      · go_wp2
        go_meet
        case rel => exact ⟨m1, rfl, by omega, by omega, by omega, rfl⟩
    case rest =>
    clear h10 h11
    obtain ⟨m2, rfl, h10, h11, h12, hw⟩ := hcut
    replace hw := hw.symm
    subst hw
    go_upto_if 72 with fail
    go_cut [11] from 73 to 74 (fun v wx => ∃ m : Nat, v = .int .i64 m ∧ m ≤ n0 ∧ m ≤ n1 ∧ m ≤ n2 ∧ m ≤ n3 ∧ wx = w)
    case first =>
      by_cases h : n3 < m2
      · go_wp2
        go_meet
        case rel => exact ⟨n3, rfl, by omega, by omega, by omega, by omega, rfl⟩
      · go_wp2
        go_meet
        case rel => exact ⟨m2, rfl, by omega, by omega, by omega, by omega, rfl⟩
    case rest =>
    clear h10 h11 h12
    obtain ⟨m3, rfl, h10, h11, h12, h13, hw⟩ := hcut
    replace hw := hw.symm
    subst hw
    go_upto_if 78 with fail
    go_cut [11] from 79 to 80 (fun v wx => ∃ m : Nat, v = .int .i64 m ∧ m ≤ n0 ∧ m ≤ n1 ∧ m ≤ n2 ∧ m ≤ n3 ∧ m ≤ n4 ∧ wx = w)
    case first =>
      by_cases h : n4 < m3
      · go_wp2
        go_meet
        case rel => exact ⟨n4, rfl, by omega, by omega, by omega, by omega, by omega, rfl⟩
      · go_wp2
        go_meet
        case rel => exact ⟨m3, rfl, by omega, by omega, by omega, by omega, by omega, rfl⟩
    case rest =>
    clear h10 h11 h12 h13
    obtain ⟨m, rfl, h10, h11, h12, h13, h14, hw⟩ := hcut
    replace hw := hw.symm
    subst hw
    have hm8 : m ≤ 8192 := by omega
    go_wp2_with fail
    refine (unhide HN).mono ?_
    rintro e w1 ⟨C, b, rfl, q1, q2, q3⟩
    have q1' := hide q1
    have q2' := hide q2
    clear q1 q2 q3 HN
    go_wp2
    go_loopw [14] (fun tv wr => ∃ t : Nat, t ≤ m ∧ tv = .int .i64 t ∧ CW w.heap.size wr C b (i.text t) ∧ Below w.heap.size w wr) (fun tv _ => m - (RowKit.intOf tv).toNat)
    case atStart => exact ⟨0, Nat.zero_le _, rfl, unhide q1', unhide q2'⟩
    case round =>
    clear q1' q2'
    obtain ⟨t, ht, rfl, hC, hB⟩ := hrel
    by_cases hlt : t < m
    · obtain ⟨g0, g1, g2, g3, g4⟩ := unhide hl
      obtain ⟨b0, o0, e0, k0⟩ := (unhide hE').line t (by omega)
      obtain ⟨b1, o1, b2, o2, b3, o3, b4, o4, e1, e2, e3, e4, kc⟩ := (unhide hE').cells t (by omega) (by omega) (by omega) (by omega)
      have hTl := Ins.text_length (unhide hE').ok t
      have HW := hide ((unhide hE').round wr hB w.heap.size C b (Nat.le_refl _) (i.text t) hC (by omega) (xl.getD t 0) t)
      obtain ⟨z0, hz0⟩ : ∃ z, z = xl.getD t 0 := ⟨_, rfl⟩
      obtain ⟨z1, hz1⟩ : ∃ z, z = i.xs.getD t 0 := ⟨_, rfl⟩
      obtain ⟨z2, hz2⟩ : ∃ z, z = i.xa.getD t 0 := ⟨_, rfl⟩
      obtain ⟨z3, hz3⟩ : ∃ z, z = i.xb.getD t 0 := ⟨_, rfl⟩
      obtain ⟨z4, hz4⟩ : ∃ z, z = i.xd.getD t 0 := ⟨_, rfl⟩
      rw [← hz0, ← hz1, ← hz2, ← hz3, ← hz4] at HW
      rw [← hz0] at k0
      rw [← hz1, ← hz2, ← hz3, ← hz4] at kc
      have hK : Hid (∀ wx, Below w.heap.size wr wx → (wx.cell? ⟨b0, o0 + t, none⟩ = some (.int .i64 z0) ∧ wx.cell? ⟨b1, o1 + t, none⟩ = some (.int .i64 z1) ∧ wx.cell? ⟨b2, o2 + t, none⟩ = some (.int .u64 z2) ∧ wx.cell? ⟨b3, o3 + t, none⟩ = some (.int .u64 z3) ∧ wx.cell? ⟨b4, o4 + t, none⟩ = some (.float .f64 z4))) := fun wx hx =>
        ⟨k0 wx (hB.trans hx), (kc wx (hB.trans hx)).c1, (kc wx (hB.trans hx)).c2, (kc wx (hB.trans hx)).c3, (kc wx (hB.trans hx)).c4⟩
      have hK0 := unhide hK wr (Below.refl _ _)
      obtain ⟨d0, d1, d2, d3, d4⟩ := id hK0
      have hB' := hide hB
      have r0 : (t : Int) < (n0 : Int) := by omega
      have r1 : (t : Int) < (n1 : Int) := by omega
      have r2 : (t : Int) < (n2 : Int) := by omega
      have r3 : (t : Int) < (n3 : Int) := by omega
      have r4 : (t : Int) < (n4 : Int) := by omega
      clear hz0 hz1 hz2 hz3 hz4 k0 kc hC hB hTl g0 g1 g2 g3 g4 hl hE'
      subst e0; subst e1; subst e2; subst e3; subst e4
      go_upto_region 20 with fail
      go_region_held3 (fun wx => wx.cell? ⟨b0, o0 + t, none⟩ = some (.int .i64 z0) ∧ wx.cell? ⟨b1, o1 + t, none⟩ = some (.int .i64 z1) ∧ wx.cell? ⟨b2, o2 + t, none⟩ = some (.int .u64 z2) ∧ wx.cell? ⟨b3, o3 + t, none⟩ = some (.int .u64 z3) ∧ wx.cell? ⟨b4, o4 + t, none⟩ = some (.float .f64 z4))
        (first | exact hK0 | exact hkeep)
        (first | (go_at_call 6; refine (unhide HW 1).mono ?_; rintro en w3 ⟨rfl, g1, g2⟩; have hkeep := unhide hK w3 g2; have g1' := hide g1; have g2' := hide g2; clear g1 g2))
      go_wp2
      go_roundw
      case rel => exact ⟨t + 1, by omega, by go_num, unhide g1', (unhide hB').trans (unhide g2')⟩
      case measure => simp [RowKit.intOf]; omega
    · have hm : t = m := by omega
      subst hm
      clear hlt ht
      obtain ⟨g0, g1, g2, g3, g4⟩ := unhide hl
      have hTl := Ins.text_length (unhide hE').ok t
      have HF := hide (zzFlush_any w.heap.size wr C b (i.text t) hC (by omega))
      have hTl' := hide hTl
      have hB' := hide hB
      obtain ⟨AL, hAL⟩ : ∃ AL, AL = bstr (i.text t) := ⟨_, rfl⟩
      have hAs : AL.size ≤ 4000000 := by rw [hAL, bstr_size]; omega
      clear hC hB hTl g0 g1 g2 g3 g4
      go_wp2_with fail
      refine (unhide HF).mono ?_
      rintro e w2 ⟨rfl, ⟨v, q7⟩, q8⟩
      have HT := hide (zzText_any w2 b v (i.text t) q7)
      rw [← hAL] at HT
      have q9 : Hid (Below w.heap.size w w2) := (unhide hB').trans q8
      have hAL' := hide hAL
      clear q7 q8 HF hAL hB'
      go_wp2_with fail
      refine (unhide HT).mono ?_
      rintro e w3 ⟨rfl, k, rfl⟩
      have hcv := fun C => want_conv w2 k C
      clear HT
      go_upto_region 24 with fail
      go_cut [16] from 120 to 121 (fun v wx => WRow wx v header ∧ (∀ k, v.ownBlock = some k → w.heap.size ≤ k) ∧ Below w.heap.size w wx)
      case first =>
        go_wp2
        go_meet
        case rel =>
          refine ⟨want_row w2 k _ _ (by rfl), ?_, ?_⟩
          · intro j hj
            have e : j = w2.heap.size := by simpa [Value.ownBlock] using hj.symm
            rw [e]; exact (unhide q9).size
          · exact (below_drew (unhide q9) k).trans (below_grown (r := none) (World.grownBy_alloc _ _ _) (unhide q9).size (by simp))
      case rest =>
      clear hcv q9
      obtain ⟨hW0, hO0, hB0⟩ := hcut
      have hW0' := hide hW0
      have hO0' := hide hO0
      have hB0' := hide hB0
      clear hW0 hO0 hB0
      go_wp2
      go_loopw [16, 17] (fun v tv wr => ∃ k : Nat, k ≤ t ∧ tv = .int .i64 k ∧ WRow wr v (i.text k) ∧ (∀ j, v.ownBlock = some j → w.heap.size ≤ j) ∧ Below w.heap.size w wr) (fun _ tv _ => t - (RowKit.intOf tv).toNat)
      case atStart => exact ⟨0, Nat.zero_le _, rfl, unhide hW0', unhide hO0', unhide hB0'⟩
      case round =>
      clear hW0' hO0' hB0'
      obtain ⟨wr2, rfl⟩ : ∃ q : World, q = wr := ⟨_, rfl⟩
      obtain ⟨k2, hk, rfl, hW, hO, hB⟩ := hrel
      by_cases hlt : k2 < t
      · obtain ⟨g0, g1, g2, g3, g4⟩ := unhide hl
        obtain ⟨b1, o1, b2, o2, b3, o3, b4, o4, e1, e2, e3, e4, kc⟩ := (unhide hE').cells k2 (by omega) (by omega) (by omega) (by omega)
        have hTl2 := Ins.text_length (unhide hE').ok k2
        obtain ⟨⟨i1, i2⟩, i3, i4, i5⟩ := (unhide hE').ok.at k2
        have hR4 := hide (row4 (unhide hE').ok k2)
        have hLD := hide (lead4 i k2)
        obtain ⟨u1, u2, u3⟩ := size4 (unhide hE').ok k2
        have HN2 := hide (zzNew_any wr2)
        obtain ⟨z1, hz1⟩ : ∃ z, z = i.xs.getD k2 0 := ⟨_, rfl⟩
        obtain ⟨z2, hz2⟩ : ∃ z, z = i.xa.getD k2 0 := ⟨_, rfl⟩
        obtain ⟨z3, hz3⟩ : ∃ z, z = i.xb.getD k2 0 := ⟨_, rfl⟩
        obtain ⟨z4, hz4⟩ : ∃ z, z = i.xd.getD k2 0 := ⟨_, rfl⟩
        have HWr := hide (fun (wx : World) (C2 bb : Nat) (hC : CW wr2.heap.size wx C2 bb header) (hBx : Below w.heap.size w wx) => (unhide hE').round wx hBx wr2.heap.size C2 bb hB.size header hC (by rw [header_length]; omega) 0 k2)
        rw [← hz1, ← hz2, ← hz3, ← hz4] at HWr kc
        rw [← hz1] at i1 i2 u1
        rw [← hz2] at i3 u2
        rw [← hz3] at i4 u3
        rw [← hz1, ← hz2, ← hz3] at hLD
        have hK : Hid (∀ wx, Below w.heap.size w wx → (wx.cell? ⟨b1, o1 + k2, none⟩ = some (.int .i64 z1) ∧ wx.cell? ⟨b2, o2 + k2, none⟩ = some (.int .u64 z2) ∧ wx.cell? ⟨b3, o3 + k2, none⟩ = some (.int .u64 z3) ∧ wx.cell? ⟨b4, o4 + k2, none⟩ = some (.float .f64 z4))) := fun wx hx =>
          ⟨(kc wx hx).c1, (kc wx hx).c2, (kc wx hx).c3, (kc wx hx).c4⟩
        obtain ⟨ro, hro⟩ : ∃ ro, ro = i.row k2 := ⟨_, rfl⟩
        rw [← hro] at hR4 HWr
        obtain ⟨T2, hT2⟩ : ∃ T2, T2 = header ++ ro := ⟨_, rfl⟩
        rw [← hT2] at hR4 HWr
        have hT2l : Hid (T2.length ≤ 1000) := by
          have h1 := (unhide hR4).r2
          rw [bstr_size] at h1
          rw [Hid, hT2, List.length_append, header_length]
          omega
        have HI := hide (fun wx => itoa_any wx z1 i1 i2)
        have HA := hide (fun wx => utoa_any wx z2 i3)
        have HB := hide (fun wx => utoa_any wx z3 i4)
        obtain ⟨sI, hsI⟩ : ∃ s, s = bstr (Lib.itoa z1) := ⟨_, rfl⟩
        obtain ⟨sA, hsA⟩ : ∃ s, s = bstr (Lib.decDigits z2) := ⟨_, rfl⟩
        obtain ⟨sB, hsB⟩ : ∃ s, s = bstr (Lib.decDigits z3) := ⟨_, rfl⟩
        obtain ⟨LD, hLDd⟩ : ∃ s, s = bstr (i.lead k2) := ⟨_, rfl⟩
        rw [← hsI] at HI u1 hLD
        rw [← hsA] at HA u2 hLD
        rw [← hsB] at HB u3 hLD
        rw [← hLDd] at hLD hR4
        have hW' := hide hW
        have hO' := hide hO
        have hB' := hide hB
        have hro' := hide hro
        have hTl2' := hide hTl2
        have r1 : (k2 : Int) < (n1 : Int) := by omega
        have r2 : (k2 : Int) < (n2 : Int) := by omega
        have r3 : (k2 : Int) < (n3 : Int) := by omega
        have r4 : (k2 : Int) < (n4 : Int) := by omega
        clear hz1 hz2 hz3 hz4 kc hW hO hB hro hTl2 hTl' hT2 hsI hsA hsB hLDd i1 i2 i3 i4 i5 g0 g1 g2 g3 g4 hl hE'
        subst e1; subst e2; subst e3; subst e4
        go_wp2_with fail
        refine (unhide HN2).mono ?_
        rintro e w4 ⟨C2, bb, rfl, q1, q2, q3⟩
        have k4 : Below w.heap.size w w4 := (unhide hB').trans (q2.mono (unhide hB').size)
        have HW2 := hide (unhide HWr w4 C2 bb q1 k4)
        have hK0 := unhide hK w4 k4
        obtain ⟨d1, d2, d3, d4⟩ := id hK0
        have k4' := hide k4
        have q2' := hide q2
        clear q1 q2 q3 k4 HN2 HWr
        go_upto_region 31 with fail
        go_cut [20] from 133 to 151 (fun _ wx => CW wr2.heap.size wx C2 bb T2 ∧ Below wr2.heap.size wr2 wx)
        case first =>
          go_region_held3 (fun wx => wx.cell? ⟨b1, o1 + k2, none⟩ = some (.int .i64 z1) ∧ wx.cell? ⟨b2, o2 + k2, none⟩ = some (.int .u64 z2) ∧ wx.cell? ⟨b3, o3 + k2, none⟩ = some (.int .u64 z3) ∧ wx.cell? ⟨b4, o4 + k2, none⟩ = some (.float .f64 z4))
            (first | exact hK0 | exact hkeep)
            (first | (go_at_call 6; refine (unhide HW2 1).mono ?_; rintro en w5 ⟨rfl, g1, g2⟩; have hkeep := unhide hK w5 ((unhide k4').trans (g2.mono (unhide hB').size)); have g1' := hide g1; have g2' := hide ((unhide q2').trans g2); clear g1 g2))
          go_wp2
          go_meet
          case rel => exact ⟨unhide g1', unhide g2'⟩
        case rest =>
        clear d1 d2 d3 d4 hK0 HW2 k4' q2'
        obtain ⟨w5, rfl⟩ : ∃ q : World, q = wc := ⟨_, rfl⟩
        obtain ⟨q4, q5⟩ := hcut
        have HF := hide (zzFlush_any wr2.heap.size w5 C2 bb T2 q4 (by have := unhide hT2l; omega))
        have q5' := hide q5
        clear q4 q5
        go_wp2_with fail
        refine (unhide HF).mono ?_
        rintro e w6 ⟨rfl, ⟨v6, q7⟩, q8⟩
        have HT := hide (zzText_any w6 bb v6 T2 q7)
        have q9 : Hid (Below wr2.heap.size wr2 w6) := (unhide q5').trans q8
        clear q7 q8 q5' HF
        go_wp2_with fail
        refine (unhide HT).mono ?_
        rintro e w7 ⟨rfl, n7, hw⟩
        have q10 : Hid (Below wr2.heap.size wr2 w7) := by rw [hw]; exact below_drew (unhide q9) n7
        clear hw HT q9
        have HP := hide (hasPrefix_any w7 (bstr T2) (bstr header) (by have := (unhide hR4).sz; rw [bstr_size header, header_length]; exact this) (unhide hR4).pre)
        go_wp2_with fail
        refine (unhide HP).mono ?_
        rintro e w8 ⟨rfl, hw⟩
        replace hw := hw.symm
        subst hw
        have s1 := (unhide hR4).sz
        have s1I : (33 : Int) ≤ ((bstr T2).size : Int) := by omega
        have s3 := (unhide hR4).cut
        clear HP
        have hK3 : Hid (∀ wx, Below wr2.heap.size wr2 wx → (wx.cell? ⟨b1, o1 + k2, none⟩ = some (.int .i64 z1) ∧ wx.cell? ⟨b2, o2 + k2, none⟩ = some (.int .u64 z2) ∧ wx.cell? ⟨b3, o3 + k2, none⟩ = some (.int .u64 z3))) := fun wx hx => by
          obtain ⟨y1, y2, y3, -⟩ := unhide hK wx ((unhide hB').trans (hx.mono (unhide hB').size))
          exact ⟨y1, y2, y3⟩
        have hK0 := unhide hK3 w7 (unhide q10)
        obtain ⟨d1, d2, d3⟩ := id hK0
        have kd : Below wr2.heap.size wr2 w7.drew := below_drew (unhide q10) 1
        have j1 : ¬ 9223372036854775807 < sI.size + 1 := by omega
        have j2 : ¬ 9223372036854775807 < sI.size + 1 + sA.size := by omega
        have j3 : ¬ 9223372036854775807 < sI.size + 1 + sA.size + 1 := by omega
        have j4 : ¬ 9223372036854775807 < sI.size + 1 + sA.size + 1 + sB.size := by omega
        have j5 : ¬ 9223372036854775807 < sI.size + 1 + sA.size + 1 + sB.size + 1 := by omega
        go_upto_region 38 with fail
        go_cut [22] from 162 to 181 (fun v wx => v = .string LD ∧ Below wr2.heap.size wr2 wx)
        case first =>
          go_region_held3 (fun wx => wx.cell? ⟨b1, o1 + k2, none⟩ = some (.int .i64 z1) ∧ wx.cell? ⟨b2, o2 + k2, none⟩ = some (.int .u64 z2) ∧ wx.cell? ⟨b3, o3 + k2, none⟩ = some (.int .u64 z3))
            (first | exact hK0 | exact hk1 | exact hk2 | exact hk3)
            (first
              | (go_at_call 12; refine (unhide HI _).mono ?_; rintro en x1 ⟨rfl, hg1⟩; have kk1 : Below wr2.heap.size wr2 x1 := below_grow kd kd.size hg1; have hk1 := unhide hK3 x1 kk1; clear hg1)
              | (go_at_call_of 13 (Value.int .u64 (z2 : Int)); refine (unhide HA _).mono ?_; rintro en x2 ⟨rfl, hg2⟩; have kk2 : Below wr2.heap.size wr2 x2 := below_grow kk1 kk1.size hg2; have hk2 := unhide hK3 x2 kk2; clear hg2)
              | (go_at_call_of 13 (Value.int .u64 (z3 : Int)); refine (unhide HB _).mono ?_; rintro en x3 ⟨rfl, hg3⟩; have kk3 : Below wr2.heap.size wr2 x3 := below_grow kk2 kk2.size hg3; have hk3 := unhide hK3 x3 kk3; clear hg3))
          go_wp2
          go_meet
          case rel => exact ⟨by rw [unhide hLD], kk3⟩
        case rest =>
        clear d1 d2 d3 hK0 kd hK3 hK HI HA HB q10
        obtain ⟨w9, rfl⟩ : ∃ q : World, q = wc := ⟨_, rfl⟩
        obtain ⟨rfl, k9⟩ := hcut
        have k9' := hide k9
        clear k9
        have HP2 := hide (hasPrefix_any w9 (bstr ro) LD (unhide hR4).lsz (unhide hR4).lead)
        obtain ⟨nr, hnr⟩ : ∃ nr, (bstr ro).size = nr + 1 := ⟨(bstr ro).size - 1, by have := (unhide hR4).r1; omega⟩
        have hnr4 : nr ≤ 464 := by have := (unhide hR4).r2; omega
        have hlst : ∀ h : nr < (bstr ro).size, (bstr ro)[nr] = 10 := fun h => by
          have h2 := (unhide hR4).last (by omega)
          have e : (bstr ro).size - 1 = nr := by omega
          simp only [e] at h2
          exact h2
        have hlst' := hlst (by omega)
        have hnrI : ((bstr ro).size : Int) = (nr : Int) + 1 := by omega
        clear s1 s1I s3 hlst
        go_wp2_with fail
        refine (unhide HP2).mono ?_
        rintro e wz ⟨rfl, hw⟩
        replace hw := hw.symm
        subst hw
        have hro1 : Hid (1 ≤ ro.length) := by have := (unhide hR4).r1; rw [bstr_size] at this; exact this
        have hro2 : Hid (ro.length ≤ 465) := by have := (unhide hR4).r2; rw [bstr_size] at this; exact this
        clear HP2 hR4
        have hWk := hide ((unhide hW').below (unhide k9'))
        have hB9 : Hid (Below w.heap.size w w9) := (unhide hB').trans ((unhide k9').mono (unhide hB').size)
        go_wp2_with (at_builtin; refine wpList_appW rfl _ _ rfl _ (i.text k2) ro _ (unhide hWk) rfl rfl (unhide hro1) (by have := unhide hro2; have := unhide hTl2'; omega) w.heap.size (unhide hB9).size (unhide hO') ?_)
        intro v10 w10 y1 y2 y3
        have y1' := hide y1
        have y2' := hide y2
        have y3' := hide y3
        clear y1 y2 y3
        go_wp2
        go_roundw
        case rel =>
          refine ⟨k2 + 1, by omega, by go_num, .inl ?_, unhide y2', (unhide hB9).trans (unhide y3')⟩
          have e : i.text (k2 + 1) = i.text k2 ++ ro := by rw [unhide hro']; rfl
          rw [e, List.length_append, List.map_append]
          exact unhide y1'
        case measure => simp [RowKit.intOf]; omega
      · have hm : k2 = t := by omega
        subst hm
        clear hlt hk
        have hcv := hW.conv (by
          have h1 := i.text_lfs k2
          have h2 := lfs_le (i.text k2)
          omega)
        rw [← unhide hAL'] at hcv
        have hlf : Hid (lfs AL.data.toList = k2 + 1) := by rw [Hid, unhide hAL', bstr_list, i.text_lfs]
        have hB' := hide hB
        clear hW hO hB
        go_wp2
        go_loopw [23, 24] (fun nv tv wx => ∃ j : Nat, j ≤ AL.size ∧ tv = .int .i64 j ∧ nv = .int .i64 ((lfs (AL.data.toList.take j) : Nat) : Int) ∧ wx = wr2) (fun _ tv _ => AL.size - (RowKit.intOf tv).toNat)
        case atStart => exact ⟨0, Nat.zero_le _, rfl, by simp [lfs], rfl⟩
        case round =>
        obtain ⟨j, hj, rfl, rfl, hw⟩ := hrel
        replace hw := hw.symm
        subst hw
        by_cases hjl : j < AL.size
        · have hst := lfs_take AL j hjl
          have hle := lfs_le (AL.data.toList.take j)
          obtain ⟨q, hq⟩ : ∃ q, q = lfs (AL.data.toList.take j) := ⟨_, rfl⟩
          have hqb : q ≤ 4000000 := by
            have h1 : (AL.data.toList.take j).length ≤ j := List.length_take_le _ _
            omega
          rw [← hq] at hst ⊢
          have hst' := hide hst
          clear hst hle hq hcv
          by_cases h10 : AL[j] = 10
          · go_wp2
            go_roundw
            case rel => exact ⟨j + 1, by omega, by go_num, by rw [unhide hst', if_pos h10]; go_num, by first | rfl | simp⟩
            case measure => simp [RowKit.intOf]; omega
          · have h10' : ¬ ((AL[j].toNat : Int) = 10) := fun e => h10 (byte_eqI _ 10 e)
            go_wp2
            go_roundw
            case rel => exact ⟨j + 1, by omega, by go_num, by rw [unhide hst', if_neg h10, Nat.add_zero], by first | rfl | simp⟩
            case measure => simp [RowKit.intOf]; omega
        · have hjs : j = AL.size := by omega
          have e9 : lfs (AL.data.toList.take j) = k2 + 1 := by
            have hal : AL.data.toList.length = AL.size := by rw [Array.length_toList]; rfl
            rw [List.take_of_length_le (by rw [hjs, hal]; exact Nat.le_refl _)]
            exact unhide hlf
          rw [e9]
          clear e9 hlf
          subst hjs
          go_wp2
          go_ret
          exact ⟨by first | rfl | simp, unhide hB'⟩

end Go.Proofs.Qxb6614069aDoor
