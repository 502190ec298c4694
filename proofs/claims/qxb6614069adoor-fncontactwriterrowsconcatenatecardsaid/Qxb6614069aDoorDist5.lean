import Derived.Test.Qxb6614069aDoorDist4
namespace Go.Proofs.Qxb6614069aDoor
open Go.RowKit Go.Lib Ieee

theorem unary_negF (k : FloatKind) (b : Nat) : Op.unary .neg (.float k b) = pure (.float k (Op.negFloat k b)) := rfl
attribute [local go_sem] unary_negF

theorem two_bytes (fp : ByteArray) (h : fp.size = 2) (h0 : 0 < fp.size) (h1 : 1 < fp.size) (e0 : fp[0].toNat = 48) (e1 : fp[1].toNat = 48) : fp = ⟨#[48, 48]⟩ := by
  obtain ⟨⟨l⟩⟩ := fp
  have hl : l.length = 2 := h
  match l, hl with
  | [x, y], _ =>
    have ex : x.toNat = 48 := e0
    have ey : y.toNat = 48 := e1
    have hx : x = 48 := UInt8.toNat_inj.1 (by rw [ex]; rfl)
    have hy : y = 48 := UInt8.toNat_inj.1 (by rw [ey]; rfl)
    rw [hx, hy]

set_option maxRecDepth 100000 in
set_option maxHeartbeats 4000000 in
theorem dist_walk (b a H : Nat) (S : Bool) (f s0 ip fp : ByteArray) (n : Nat) (w : World) (hP : DParts s0 ip fp n H) (hn : n ≤ 400)
    (o1 : FloatKind.f64.format.order b b = some .eq) (r1 : ∀ w, (binOp .sub 23 (.float .f64 b) (.float .f64 b)).run Tryd.prog w = .ok (.float .f64 0) w) (o2 : FloatKind.f64.format.order 0 0 = some .eq)
    (hsg : (FloatKind.f64.format.order b 0 = some .eq ∧ ∃ q, (∀ w, (binOp .quo 23 (.float .f64 4607182418800017408) (.float .f64 b)).run Tryd.prog w = .ok (.float .f64 q) w) ∧ FloatKind.f64.format.order q 0 = some (if S then .lt else .gt)) ∨ FloatKind.f64.format.order b 0 = some (if S then .lt else .gt))
    (hf : if S then f.size = s0.size + 1 ∧ (∀ h : 0 < f.size, f[0] = 45) ∧ f.extract 1 (s0.size + 1) = s0 ∧ Op.negFloat .f64 b = a else f = s0 ∧ a = b)
    (hbig : ((FloatKind.f64.format.order a 4801453603149578240 == some .gt || FloatKind.f64.format.order a 4801453603149578240 == some .eq) = true ∧ 14 ≤ n) ∨
      ((FloatKind.f64.format.order a 4801453603149578240 == some .gt || FloatKind.f64.format.order a 4801453603149578240 == some .eq) = false ∧ n ≤ 14 ∧ H ≤ 1000000000000000 ∧
        ∃ r2 r3 I : Nat, (∀ w, (binOp .mul 23 (.float .f64 a) (.float .f64 4636737291354636288)).run Tryd.prog w = .ok (.float .f64 r2) w) ∧ (∀ w, (binOp .sub 23 (.float .f64 (floatOfInt .f64 (H : Int))) (.float .f64 r2)).run Tryd.prog w = .ok (.float .f64 r3) w) ∧
          (FloatKind.f64.format.order r3 4604930618986332160 == some .gt) = false ∧ (FloatKind.f64.format.order r3 13828302655841107968 == some .lt) = false ∧ I ≤ 10000000000000 ∧
          (∀ w, (convert 23 2 (.float .f64 a)).run Tryd.prog w = .ok (.int .i64 (I : Int)) w) ∧ (FloatKind.f64.format.order a (floatOfInt .f64 (I : Int)) = some .eq → H = 100 * I))) :
    Calls Tryd.prog 21 #[.string f, .float .f64 b] w fun e w' => e = .returned (.bool true) ∧ ∃ k, w' = w.drewN k := by
  have hP' := hide hP
  have hbig' := hide hbig
  have hf' := hide hf
  clear hP hbig hf
  go_enter Tryd.func21, Tryd.ntmps21
  go_upto_region 7 with fail
  go_cut [5] from 31 to 41 (fun v wx => v = .bool S ∧ wx = w)
  case first =>
    rcases hsg with ⟨k1, q, k2, k3⟩ | k1
    · cases S
      · go_wp2
        go_meet
        case rel => exact ⟨by first | rfl | simp, by first | rfl | simp⟩
      · go_wp2
        go_meet
        case rel => exact ⟨by first | rfl | simp, by first | rfl | simp⟩
    · cases S
      · go_wp2
        go_meet
        case rel => exact ⟨by first | rfl | simp, by first | rfl | simp⟩
      · go_wp2
        go_meet
        case rel => exact ⟨by first | rfl | simp, by first | rfl | simp⟩
  case rest =>
    obtain ⟨rfl, hw⟩ := hcut
    replace hw := hw.symm
    subst hw
    clear hsg r1 o1 o2
    go_upto_if 43 with fail
    go_cut [6] from 44 to 53 (fun v wx => v = .string s0 ∧ wx = w)
    case first =>
      cases S
      · obtain ⟨rfl, rfl⟩ := unhide hf'
        go_wp2
        go_meet
        case rel => exact ⟨rfl, rfl⟩
      · obtain ⟨f1, f2, f3, f4⟩ := unhide hf'
        have f0 : 0 < f.size := by omega
        have f5 := f2 f0
        have f6 : ¬ (f.size : Int) = 0 := by omega
        go_wp2
        go_meet
        case rel => exact ⟨by rw [← f3, ← f1], rfl⟩
    case rest =>
      obtain ⟨rfl, hw⟩ := hcut
      replace hw := hw.symm
      subst hw
      obtain ⟨n1, sz, dot, cut1, cut2, isz, fsz, idg, lead, q0, q1, top⟩ := unhide hP'
      have dot' := dot (by omega)
      have HA1 := hide (allDigits_any ip w (by omega) (by omega) (fun j hj => by have := idg j hj; omega))
      have HA2 := hide (allDigits_any fp w (by omega) (by omega) (fun j hj => by
        have hj2 : j = 0 ∨ j = 1 := by omega
        rcases hj2 with rfl | rfl
        · have := q0 hj; omega
        · have := q1 hj; omega))
      have idg' := hide idg
      have lead' := hide lead
      have q0' := hide (q0 (by omega))
      have q1' := hide (q1 (by omega))
      have top' := hide top
      clear idg lead q0 q1 dot top
      go_wp2_with fail
      refine (unhide HA1).mono ?_
      rintro e wx ⟨rfl, hw⟩
      replace hw := hw.symm
      subst hw
      go_wp2_with fail
      refine (unhide HA2).mono ?_
      rintro e wx ⟨rfl, hw⟩
      replace hw := hw.symm
      subst hw
      clear HA1 HA2 dot' cut1 cut2 sz
      go_upto_region 19 with fail
      go_cut [90] from 83 to 90 (fun v wx => v = .bool false ∧ wx = w)
      case first =>
        by_cases h1 : 1 < n
        · have h0 : 0 < ip.size := by omega
          have h2 := unhide lead' h1 h0
          have h3 : ¬ ((ip[0].toNat : Int) = 48) := fun e => h2 (byte_eqI _ 48 e)
          go_wp2
          go_meet
          case rel => exact ⟨by first | rfl | (simp; exact h3), by first | rfl | simp⟩
        · go_wp2
          go_meet
          case rel => exact ⟨by first | rfl | simp, by first | rfl | simp⟩
      case rest =>
        obtain ⟨rfl, hw⟩ := hcut
        replace hw := hw.symm
        subst hw
        go_upto_if 92 with fail
        go_cut [9] from 93 to 94 (fun v wx => v = .float .f64 a ∧ wx = w)
        case first =>
          cases S
          · obtain ⟨rfl, rfl⟩ := unhide hf'
            go_wp2
            go_meet
            case rel => exact ⟨rfl, rfl⟩
          · obtain ⟨f1, f2, f3, f4⟩ := unhide hf'
            have f4' := hide f4
            clear f1 f2 f3 f4
            go_wp2
            go_meet
            case rel => exact ⟨by rw [unhide f4'], rfl⟩
        case rest =>
          obtain ⟨rfl, hw⟩ := hcut
          replace hw := hw.symm
          subst hw
          rcases unhide hbig' with ⟨g1, g2⟩ | ⟨g1, g2, g3, r2, r3, I, m1, m2, m3, m4, m5, m6, m7⟩
          · clear hf' hbig' idg' lead' q0' q1' top' hP'
            go_wp2
            go_ret
            exact ⟨by simp; omega, 0, rfl⟩
          · have m7' := hide m7
            have m2' := hide m2
            have m7b : Hid ((FloatKind.f64.format.order a (floatOfInt .f64 (I : Int)) == some .eq) = false ∨ (FloatKind.f64.format.order a (floatOfInt .f64 (I : Int)) = some .eq ∧ H = 100 * I)) := by
              by_cases h : FloatKind.f64.format.order a (floatOfInt .f64 (I : Int)) = some .eq
              · exact .inr ⟨h, m7 h⟩
              · exact .inl (by simpa using h)
            clear hbig' m7 hf' lead' hP' m2
            go_wp2
            go_loopw [10, 11] (fun hv tv wr => ∃ t : Nat, t ≤ n ∧ tv = .int .i64 t ∧ hv = .int .i64 ((H / 100 / 10 ^ (n - t) : Nat) : Int) ∧ wr = w) (fun _ tv _ => n - (RowKit.intOf tv).toNat)
            case atStart => exact ⟨0, Nat.zero_le _, rfl, by rw [Nat.sub_zero, Nat.div_eq_of_lt (unhide top')]; rfl, rfl⟩
            case round =>
              obtain ⟨t, ht, rfl, rfl, hw⟩ := hrel
              replace hw := hw.symm
              subst hw
              by_cases hlt : t < n
              · have hti : t < ip.size := by omega
                have g5 := unhide idg' t hti
                obtain ⟨d, hd⟩ : ∃ d, d = H / 100 / 10 ^ (n - 1 - t) % 10 := ⟨_, rfl⟩
                have hd9 : d ≤ 9 := by omega
                have hst := dig_step (H / 100) n t hlt
                obtain ⟨V, hV⟩ : ∃ V, V = H / 100 / 10 ^ (n - t) := ⟨_, rfl⟩
                have hVb : V ≤ 10000000000000 := by
                  have : H / 100 / 10 ^ (n - t) ≤ H / 100 := Nat.div_le_self _ _
                  omega
                rw [← hd] at g5
                rw [← hd, ← hV] at hst
                rw [← hV]
                have hst' := hide hst
                clear hst hV hd
                go_wp2
                go_roundw
                case rel => exact ⟨t + 1, by omega, by go_num, by rw [← unhide hst']; go_num, by first | rfl | simp⟩
                case measure => simp [RowKit.intOf]; omega
              · have e : t = n := by omega
                subst e
                rw [Nat.sub_self, Nat.pow_zero, Nat.div_one]
                obtain ⟨d1, hd1⟩ : ∃ d, d = H / 10 % 10 := ⟨_, rfl⟩
                obtain ⟨d0, hd0⟩ : ∃ d, d = H % 10 := ⟨_, rfl⟩
                obtain ⟨V, hV⟩ : ∃ V, V = H / 100 := ⟨_, rfl⟩
                have g6 := unhide q0'
                have g7 := unhide q1'
                have hH : Hid (V * 100 + d1 * 10 + d0 = H) := by rw [Hid]; omega
                have b1 : d1 ≤ 9 := by omega
                have b0 : d0 ≤ 9 := by omega
                have bV : V ≤ 10000000000000 := by omega
                rw [← hd1] at g6
                rw [← hd0] at g7
                rw [← hV]
                clear hd1 hd0 hV idg' q0' q1' top'
                have p0 : 0 < fp.size := by omega
                have p1 : 1 < fp.size := by omega
                go_upto_region 33 with fail
                go_cut [10] from 117 to 129 (fun v wx => v = .int .i64 (H : Int) ∧ ∃ k, wx = w.drewN k)
                case first =>
                  go_quiet (fail)
                  go_wp2
                  go_meet
                  case rel => exact ⟨by rw [← unhide hH]; go_num, _, rfl⟩
                case rest =>
                  obtain ⟨rfl, k, rfl⟩ := hcut
                  have m2 := unhide m2'
                  rcases unhide m7b with e7 | ⟨e7, e8⟩
                  · clear m7b hH g6 g7
                    go_wp2
                    go_ret
                    exact ⟨rfl, _, rfl⟩
                  · have hHH := unhide hH
                    have z1 : d1 = 0 := by omega
                    have z0 : d0 = 0 := by omega
                    have hfp := two_bytes fp fsz p0 p1 (by rw [g6, z1]) (by rw [g7, z0])
                    have e8' := hide e8
                    clear m7b hH g6 g7 hHH p0 p1 fsz e8
                    subst hfp
                    go_upto_region 38 with fail
                    have hI : (H : Int) = (I : Int) * 100 := by have := unhide e8'; omega
                    clear m2 m2' m1 m3 m4 e8' e7
                    go_wp2
                    go_ret
                    exact ⟨by first | rfl | simp, _, rfl⟩

end Go.Proofs.Qxb6614069aDoor
