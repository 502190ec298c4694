import Derived.Test.Qxb6614069aDoorRow1
import Derived.Deep.RegionHeld3
namespace Go.Proofs.Qxb6614069aDoor
open Go.RowKit Go.Lib

/-- How far the commas have been counted. -/
def Comma (c0 c1 c2 N t : Nat) (v0 v1 v2 nc : Value) : Prop :=
  (t ≤ c0 ∧ v0 = .int .i64 (-1) ∧ v1 = .int .i64 (-1) ∧ v2 = .int .i64 (-1) ∧ nc = .int .i64 0) ∨
  (c0 < t ∧ t ≤ c1 ∧ v0 = .int .i64 c0 ∧ v1 = .int .i64 (-1) ∧ v2 = .int .i64 (-1) ∧ nc = .int .i64 1) ∨
  (c1 < t ∧ t ≤ c2 ∧ v0 = .int .i64 c0 ∧ v1 = .int .i64 c1 ∧ v2 = .int .i64 (-1) ∧ nc = .int .i64 2) ∨
  (c2 < t ∧ t ≤ N ∧ v0 = .int .i64 c0 ∧ v1 = .int .i64 c1 ∧ v2 = .int .i64 c2 ∧ nc = .int .i64 3)

set_option maxRecDepth 100000 in
set_option maxHeartbeats 4000000 in
theorem row_walk (s body sI sA sB sF : ByteArray) (c0 c1 c2 N : Nat) (st : Int) (a b d : Nat) (w : World) (hP : RParts s body sI sA sB sF c0 c1 c2 N) (hN : N ≤ 1048576)
    (HI : ∀ wx, Calls Tryd.prog 12 #[.int .i64 st] wx fun e w' => e = .returned (.string sI) ∧ wx.grownBy w' none)
    (HA : ∀ wx, Calls Tryd.prog 13 #[.int .u64 (a : Int)] wx fun e w' => e = .returned (.string sA) ∧ wx.grownBy w' none)
    (HB : ∀ wx, Calls Tryd.prog 13 #[.int .u64 (b : Int)] wx fun e w' => e = .returned (.string sB) ∧ wx.grownBy w' none)
    (HD : ∀ wx, Calls Tryd.prog 21 #[.string sF, .float .f64 d] wx fun e w' => e = .returned (.bool true) ∧ ∃ k, w' = wx.drewN k) :
    Calls Tryd.prog 10 #[.string s, .int .i64 st, .int .u64 (a : Int), .int .u64 (b : Int), .float .f64 d] w fun e w' => e = .returned (.bool true) ∧ w.grownBy w' none := by
  obtain ⟨sz, bsz, last, cut, at_, o1, o2, o3, e0, e1, e2, e3⟩ := hP
  have HI' := hide HI
  have HA' := hide HA
  have HB' := hide HB
  have HD' := hide HD
  have at' := hide at_
  have e0' := hide e0
  have e1' := hide e1
  have e2' := hide e2
  have e3' := hide e3
  have l1 := last (by omega)
  have z0 : ¬ (s.size : Int) = 0 := by omega
  clear HI HA HB HD at_ e0 e1 e2 e3 last
  go_enter Tryd.func10, Tryd.ntmps10
  go_wp2
  go_loopw [12, 13, 14, 15, 16] (fun v0 v1 v2 nc tv wr => ∃ t : Nat, t ≤ N ∧ tv = .int .i64 t ∧ wr = w ∧ Comma c0 c1 c2 N t v0 v1 v2 nc) (fun _ _ _ _ tv _ => N - (RowKit.intOf tv).toNat)
  case atStart => exact ⟨0, Nat.zero_le _, rfl, rfl, .inl ⟨Nat.zero_le _, rfl, rfl, rfl, rfl⟩⟩
  case round =>
    clear l1 cut sz z0
    obtain ⟨t, ht, rfl, hw, hC⟩ := hrel
    replace hw := hw.symm
    subst hw
    by_cases hlt : t < N
    · have htb : t < body.size := by omega
      obtain ⟨q1, q2⟩ := unhide at' t htb
      have q1' : ¬ ((body[t].toNat : Int) = 10) := fun e => q1 (byte_eqI _ 10 e)
      have q2' := hide q2
      clear q1 q2
      rcases hC with ⟨h1, rfl, rfl, rfl, rfl⟩ | ⟨h0, h1, rfl, rfl, rfl, rfl⟩ | ⟨h0, h1, rfl, rfl, rfl, rfl⟩ | ⟨h0, h1, rfl, rfl, rfl, rfl⟩
      · by_cases hc : t = c0
        · have q3 : body[t] = 44 := (unhide q2').2 (.inl hc)
          clear q2' at'
          subst hc
          go_wp2
          go_roundw
          case rel => exact ⟨t + 1, by omega, by go_num, by first | rfl | simp, .inr (.inl ⟨by omega, by omega, rfl, rfl, rfl, by go_num⟩)⟩
          case measure => simp [RowKit.intOf]; omega
        · have q3 : ¬ ((body[t].toNat : Int) = 44) := fun e => by
            have := (unhide q2').1 (byte_eqI _ 44 e)
            omega
          go_wp2
          go_roundw
          case rel => exact ⟨t + 1, by omega, by go_num, by first | rfl | simp, .inl ⟨by omega, rfl, rfl, rfl, rfl⟩⟩
          case measure => simp [RowKit.intOf]; omega
      · by_cases hc : t = c1
        · have q3 : body[t] = 44 := (unhide q2').2 (.inr (.inl hc))
          clear q2' at'
          subst hc
          go_wp2
          go_roundw
          case rel => exact ⟨t + 1, by omega, by go_num, by first | rfl | simp, .inr (.inr (.inl ⟨by omega, by omega, rfl, rfl, rfl, by go_num⟩))⟩
          case measure => simp [RowKit.intOf]; omega
        · have q3 : ¬ ((body[t].toNat : Int) = 44) := fun e => by
            have := (unhide q2').1 (byte_eqI _ 44 e)
            omega
          go_wp2
          go_roundw
          case rel => exact ⟨t + 1, by omega, by go_num, by first | rfl | simp, .inr (.inl ⟨by omega, by omega, rfl, rfl, rfl, rfl⟩)⟩
          case measure => simp [RowKit.intOf]; omega
      · by_cases hc : t = c2
        · have q3 : body[t] = 44 := (unhide q2').2 (.inr (.inr hc))
          clear q2' at'
          subst hc
          go_wp2
          go_roundw
          case rel => exact ⟨t + 1, by omega, by go_num, by first | rfl | simp, .inr (.inr (.inr ⟨by omega, by omega, rfl, rfl, rfl, by go_num⟩))⟩
          case measure => simp [RowKit.intOf]; omega
        · have q3 : ¬ ((body[t].toNat : Int) = 44) := fun e => by
            have := (unhide q2').1 (byte_eqI _ 44 e)
            omega
          go_wp2
          go_roundw
          case rel => exact ⟨t + 1, by omega, by go_num, by first | rfl | simp, .inr (.inr (.inl ⟨by omega, by omega, rfl, rfl, rfl, rfl⟩))⟩
          case measure => simp [RowKit.intOf]; omega
      · have q3 : ¬ ((body[t].toNat : Int) = 44) := fun e => by
          have := (unhide q2').1 (byte_eqI _ 44 e)
          omega
        go_wp2
        go_roundw
        case rel => exact ⟨t + 1, by omega, by go_num, by first | rfl | simp, .inr (.inr (.inr ⟨by omega, by omega, rfl, rfl, rfl, rfl⟩))⟩
        case measure => simp [RowKit.intOf]; omega
    · have hN' : t = N := by omega
      subst hN'
      rcases hC with ⟨h1, rfl, rfl, rfl, rfl⟩ | ⟨h0, h1, rfl, rfl, rfl, rfl⟩ | ⟨h0, h1, rfl, rfl, rfl, rfl⟩ | ⟨h0, h1, rfl, rfl, rfl, rfl⟩
      · exfalso; omega
      · exfalso; omega
      · exfalso; omega
      · clear h1 at' ht
        have x0 := unhide e0'
        have x1 := unhide e1'
        have x2 := unhide e2'
        have x3 := unhide e3'
        have y0 : (0 : Int) ≤ (c0 : Int) := by omega
        have y1 : (c0 : Int) ≤ (t : Int) := by omega
        have y2 : (0 : Int) ≤ (c0 : Int) + 1 := by omega
        have y3 : (c0 : Int) + 1 ≤ (c1 : Int) := by omega
        have y4 : (c1 : Int) ≤ (t : Int) := by omega
        have y5 : (0 : Int) ≤ (c1 : Int) + 1 := by omega
        have y6 : (c1 : Int) + 1 ≤ (c2 : Int) := by omega
        have y7 : (c2 : Int) ≤ (t : Int) := by omega
        have y8 : (0 : Int) ≤ (c2 : Int) + 1 := by omega
        have y9 : (c2 : Int) + 1 ≤ (t : Int) := by omega
        have g0 : IntKind.i64.wrap ((c0 : Int) + 1) = (c0 : Int) + 1 := by rw [IntKind.wrap_i64] <;> omega
        have g1 : IntKind.i64.wrap ((c1 : Int) + 1) = (c1 : Int) + 1 := by rw [IntKind.wrap_i64] <;> omega
        have g2 : IntKind.i64.wrap ((c2 : Int) + 1) = (c2 : Int) + 1 := by rw [IntKind.wrap_i64] <;> omega
        have kdr : w.grownBy w.drew none := grownBy_drew w 1 none
        go_upto_region 23 with fail
        go_cut [10] from 60 to 93 (fun v wx => v = .bool true ∧ w.grownBy wx none)
        case first =>
          go_region_held3 (fun wx => w.grownBy wx none)
            (first | exact kdr | exact k1 | exact k2 | exact k3 | exact k4)
            (first
              | (go_at_call 12; refine (unhide HI' _).mono ?_; rintro en w1 ⟨rfl, hg1⟩; have k1 : w.grownBy w1 none := grownBy_then kdr hg1 (.inl rfl); clear hg1)
              | (go_at_call_of 13 (Value.int .u64 (a : Int)); refine (unhide HA' _).mono ?_; rintro en w2 ⟨rfl, hg2⟩; have k2 : w.grownBy w2 none := grownBy_then k1 hg2 (.inl rfl); clear hg2)
              | (go_at_call_of 13 (Value.int .u64 (b : Int)); refine (unhide HB' _).mono ?_; rintro en w3 ⟨rfl, hg3⟩; have k3 : w.grownBy w3 none := grownBy_then k2 hg3 (.inl rfl); clear hg3)
              | (go_at_call 21; refine (unhide HD' _).mono ?_; rintro en w4 ⟨rfl, kk, rfl⟩; have k4 : w.grownBy (w3.drewN kk) none := grownBy_then k3 (grownBy_drew _ _ none) (.inl rfl)))
          go_wp2
          go_meet
          case rel => exact ⟨by first | rfl | simp, by first | assumption | exact k4⟩
        case rest =>
          obtain ⟨rfl, hg⟩ := hcut
          have hg' := hide hg
          clear hg
          go_wp2
          go_ret
          exact ⟨rfl, unhide hg'⟩

end Go.Proofs.Qxb6614069aDoor
