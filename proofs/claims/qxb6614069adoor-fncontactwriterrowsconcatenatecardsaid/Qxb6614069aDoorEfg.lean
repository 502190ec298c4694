import Derived.Test.Qxb6614069aDoorBase
namespace Go.Proofs.Qxb6614069aDoor
open Go.RowKit

/-- The zeros in front. -/
def efLz (dp : Int) : Nat := min 2 (-dp).toNat
def efM (dp : Int) (nd : Nat) : Nat := min (2 - efLz dp) ((nd : Int) - (dp + efLz dp)).toNat
def efTz (dp : Int) (nd : Nat) : Nat := 2 - efLz dp - efM dp nd
def efInt (ds : List UInt8) (dp : Int) : List UInt8 := if 0 < dp then ds.take dp.toNat ++ List.replicate (dp.toNat - ds.length) 48 else [48]
def efFrac (ds : List UInt8) (dp : Int) : List UInt8 := List.replicate (efLz dp) 48 ++ (ds.drop (dp + efLz dp).toNat).take (efM dp ds.length) ++ List.replicate (efTz dp ds.length) 48
/-- What '%.2f' writes. -/
def efText (neg : Bool) (ds : List UInt8) (dp : Int) : List UInt8 := (if neg then [45] else []) ++ efInt ds dp ++ [46] ++ efFrac ds dp

/-- The digits as they lie in memory, whatever becomes of the row. -/
def DigsAt (w : World) (r : Option Nat) (a : Option Addr) (ds : List UInt8) : Prop :=
  ∀ wr, w.grownBy wr r → ∀ j c, ds[j]? = some c → ∃ b, a = some ⟨b, 0, none⟩ ∧ wr.cell? ⟨b, j, none⟩ = some (byteV c)

set_option maxRecDepth 100000 in
set_option maxHeartbeats 2000000 in
theorem fmtEFG_any (v : Value) (L : List UInt8) (w : World) (hown : w.ownsRow 0 5 1 v L.length (L.map byteV)) (hL : L.length ≤ 1048576) (neg : Bool) (a : Option Addr) (n c : Nat) (ds : List UInt8) (dp : Int)
    (hn : ds.length ≤ n) (hnc : n ≤ c) (hc : c ≤ 800) (hd0 : -1000 ≤ dp) (hd1 : dp ≤ 1000) (hdp : 0 < dp → ds ≠ []) (hD : DigsAt w v.ownBlock a ds) :
    Calls Tryd.prog 46 #[v, .bool neg, .slice a n c, .int .i64 dp, .int .i64 ds.length, .int .i64 2, .int .u8 102, .bool false] w (AppP w v (L ++ efText neg ds dp)) := by
  have hA := hide (AppR.refl hown)
  have hD' := hide hD
  clear hown hD
  go_enter Tryd.func46, Tryd.ntmps46
  go_upto_if 178 with fail
  go_cut [0] from 178 to 181 (fun u wx => AppR w v (L ++ (if neg then [45] else [])) u wx)
  case first =>
    cases neg
    · go_wp2
      go_meet
      case rel => simpa using unhide hA
    · go_wp2_with (at_builtin; refine wpList_app1 rfl _ _ rfl w v v L 45 _ (unhide hA) rfl _ rfl (by omega) ?_)
      intro v1 w1 hA1
      have hA1' := hide hA1
      clear hA1
      go_wp2
      go_meet
      case rel => simpa using unhide hA1'
  case rest =>
    obtain ⟨L1, hL1⟩ : ∃ L1, L1 = L ++ (if neg then [45] else []) := ⟨_, rfl⟩
    rw [← hL1] at hcut
    have hL1b : L1.length ≤ 1048577 := by rw [hL1, List.length_append]; split <;> simp <;> omega
    have hA1 := hide hcut
    have hL1' := hide hL1
    clear hcut hL1 hA
    go_upto_if 183 with fail
    go_cut [0] from 182 to 211 (fun u wx => AppR w v (L1 ++ efInt ds dp) u wx)
    case first =>
      by_cases hpos : 0 < dp
      · obtain ⟨dn, rfl⟩ : ∃ dn : Nat, dp = (dn : Int) := ⟨dp.toNat, by omega⟩
        obtain ⟨m1, hm1⟩ : ∃ m1 : Nat, m1 = min ds.length dn := ⟨_, rfl⟩
        have e1 : min (ds.length : Int) (dn : Int) = (m1 : Int) := by omega
        have e2 : (dn : Int) - (m1 : Int) = ((dn - m1 : Nat) : Int) := by omega
        obtain ⟨t, ht⟩ : ∃ t, t = dn - m1 := ⟨_, rfl⟩
        rw [← ht] at e2
        have hne := hdp hpos
        obtain ⟨b, rfl⟩ : ∃ b, a = some ⟨b, 0, none⟩ := by
          obtain ⟨x, xs, rfl⟩ := List.exists_cons_of_ne_nil hne
          obtain ⟨b, hb, _⟩ := unhide hD' w (grownBy_refl _ _) 0 x rfl
          exact ⟨b, hb⟩
        have hm1c : m1 ≤ c := by omega
        have hmd : m1 ≤ ds.length := by omega
        have hfin : Hid (L1 ++ ds.take m1 ++ List.replicate t 48 = L1 ++ efInt ds (dn : Int)) := by
          unfold Hid efInt
          rw [if_pos hpos, List.append_assoc]
          have h1 : (dn : Int).toNat = dn := by simp
          rw [h1]
          have h2 : ds.take m1 = ds.take dn := by rw [hm1, Nat.min_comm, ← List.take_take, List.take_length]
          have h3 : t = dn - ds.length := by omega
          rw [h2, h3]
        have hm1' := hide hm1
        have ht' := hide ht
        clear hm1 ht hdp
        have hposB : decide ((0 : Int) < (dn : Int)) = true := decide_eq_true hpos
        have hposN : 0 < dn := by omega
        rw [hposB]
        go_wp2
        go_loopw [0, 191] (fun bv iv wr => ∃ i : Nat, i ≤ m1 ∧ iv = .int .i64 i ∧ AppR w v (L1 ++ ds.take i) bv wr) (fun _ iv _ => m1 - (intOf iv).toNat)
        case atStart => exact ⟨0, Nat.zero_le _, rfl, by simpa using unhide hA1⟩
        case round =>
          obtain ⟨i, hi, rfl, hA3⟩ := hrel
          have hdl : ds.length ≤ 800 := by omega
          by_cases hlt : i < m1
          · obtain ⟨x, hx⟩ : ∃ x, ds[i]? = some x := ⟨ds[i]'(by omega), by simp⟩
            have hcx : wr.cell? ⟨b, i, none⟩ = some (byteV x) := by
              obtain ⟨b', hb, hc⟩ := unhide hD' wr hA3.grown i x hx
              cases hb
              exact hc
            unfold byteV at hcx
            have hnx : Hid (L1 ++ (ds.take i ++ [x]) = L1 ++ ds.take (i + 1)) := by
              unfold Hid
              rw [List.take_add_one, hx]; simp
            have hlen : (L1 ++ ds.take i).length ≤ 1073741824 := by rw [List.length_append, List.length_take]; omega
            have hA3' := hide hA3
            clear hA3 hx
            go_wp2_with (at_builtin; refine wpList_app1 rfl _ _ rfl w v _ (L1 ++ ds.take i) x _ (unhide hA3') rfl _ rfl hlen ?_)
            intro v4 w4 hA4
            rw [unhide hnx] at hA4
            have hA4' := hide hA4
            clear hA4
            go_wp2
            go_roundw
            case rel => exact ⟨i + 1, by omega, by go_num, unhide hA4'⟩
            case measure => simp [intOf]; omega
          · have hie : i = m1 := by omega
            subst hie
            have hA3' := hide hA3
            clear hA3
            go_wp2
            obtain ⟨w2, rfl⟩ : ∃ q : World, q = wr := ⟨_, rfl⟩
            go_loopw [0, 203] (fun bv iv wr => ∃ j : Nat, j ≤ t ∧ iv = .int .i64 j ∧ AppR w v (L1 ++ ds.take i ++ List.replicate j 48) bv wr) (fun _ iv _ => t - (intOf iv).toNat)
            case atStart => exact ⟨0, Nat.zero_le _, rfl, by simpa using unhide hA3'⟩
            case round =>
              obtain ⟨j, hj, rfl, hA4⟩ := hrel
              have htl : t ≤ 1000 := by have := unhide ht'; omega
              by_cases hlt : j < t
              · have hnx : Hid (L1 ++ (ds.take i ++ (List.replicate j 48 ++ [48])) = L1 ++ ds.take i ++ List.replicate (j + 1) 48) := by
                  unfold Hid
                  rw [List.replicate_succ', List.append_assoc]
                have hlen : (L1 ++ ds.take i ++ List.replicate j 48).length ≤ 1073741824 := by simp only [List.length_append, List.length_take, List.length_replicate]; omega
                have hA4' := hide hA4
                clear hA4
                go_wp2_with (at_builtin; refine wpList_app1 rfl _ _ rfl w v _ (L1 ++ ds.take i ++ List.replicate j 48) 48 _ (unhide hA4') rfl _ rfl hlen ?_)
                intro v5 w5 hA5
                rw [unhide hnx] at hA5
                have hA5' := hide hA5
                clear hA5
                go_wp2
                go_roundw
                case rel => exact ⟨j + 1, by omega, by go_num, unhide hA5'⟩
                case measure => simp [intOf]; omega
              · have hje : j = t := by omega
                subst hje
                rw [unhide hfin] at hA4
                have hA4' := hide hA4
                clear hA4
                go_wp2
                go_meet
                case rel => exact unhide hA4'
      · have hfin : Hid (L1 ++ [48] = L1 ++ efInt ds dp) := by unfold Hid efInt; rw [if_neg hpos]
        clear hdp
        go_wp2_with (at_builtin; refine wpList_app1 rfl _ _ rfl w v _ L1 48 _ (unhide hA1) rfl _ rfl (by omega) ?_)
        intro v3 w3 hA3
        rw [unhide hfin] at hA3
        have hA3' := hide hA3
        clear hA3
        go_wp2
        go_meet
        case rel => exact unhide hA3'
    case rest =>
      clear hdp
      obtain ⟨L2, hL2⟩ : ∃ L2, L2 = L1 ++ efInt ds dp := ⟨_, rfl⟩
      rw [← hL2] at hcut
      have hL2b : L2.length ≤ 1050577 := by
        rw [hL2, List.length_append]; unfold efInt; split <;> simp <;> omega
      have hA2 := hide hcut
      have hL2' := hide hL2
      clear hcut hL2 hA1
      go_wp2_with (at_builtin; refine wpList_app1 rfl _ _ rfl w v _ L2 46 _ (unhide hA2) rfl _ rfl (by omega) ?_)
      intro v3 w3 hA3
      obtain ⟨L3, hL3⟩ : ∃ L3, L3 = L2 ++ [46] := ⟨_, rfl⟩
      rw [← hL3] at hA3
      have hL3b : L3.length ≤ 1050578 := by rw [hL3, List.length_append]; simp; omega
      have hfin : Hid (L3 ++ List.replicate (efLz dp) 48 ++ (ds.drop (dp + efLz dp).toNat).take (efM dp ds.length) ++ List.replicate (efTz dp ds.length) 48 = L ++ efText neg ds dp) := by
        unfold Hid
        rw [hL3, unhide hL2', unhide hL1']
        unfold efText efFrac
        simp only [List.append_assoc]
      have hA3' := hide hA3
      have hL3' := hide hL3
      clear hA3 hL3 hA2
      obtain ⟨lz, hlz⟩ : ∃ lz, lz = efLz dp := ⟨_, rfl⟩
      obtain ⟨m, hm⟩ : ∃ m, m = efM dp ds.length := ⟨_, rfl⟩
      obtain ⟨tz, htz⟩ : ∃ tz, tz = efTz dp ds.length := ⟨_, rfl⟩
      obtain ⟨f, hf⟩ : ∃ f, f = dp + lz := ⟨_, rfl⟩
      rw [← hlz, ← hm, ← htz, ← hf] at hfin
      have q1 : min (2 : Int) (max 0 (-dp)) = (lz : Int) := by rw [hlz]; unfold efLz; omega
      have q2 : dp + (lz : Int) = f := hf.symm
      have q3 : min (2 - (lz : Int)) (max 0 ((ds.length : Int) - f)) = (m : Int) := by rw [hm]; unfold efM; rw [← hlz]; omega
      have q4 : max (0 : Int) (2 - (lz : Int) - (m : Int)) = (tz : Int) := by rw [htz]; unfold efTz; rw [← hlz, ← hm]; omega
      have hlzb : lz ≤ 2 := by omega
      have hmb : m ≤ 2 := by omega
      have htb : tz ≤ 2 := by omega
      have hfm : ∀ i : Nat, i < m → 0 ≤ f ∧ f.toNat + i < ds.length := fun i hi => by omega
      have hfm' := hide hfm
      have hlz' := hide hlz
      have hm' := hide hm
      have htz' := hide htz
      clear hlz hm htz hf hfm
      go_upto_if 241 with fail
      clear q1 q2 q3 q4
      go_loopw [0, 240] (fun bv iv wr => ∃ i : Nat, i ≤ lz ∧ iv = .int .i64 i ∧ AppR w v (L3 ++ List.replicate i 48) bv wr) (fun _ iv _ => lz - (intOf iv).toNat)
      case atStart => exact ⟨0, Nat.zero_le _, rfl, by simpa using unhide hA3'⟩
      case round =>
        clear hA3'
        obtain ⟨i, hi, rfl, hA4⟩ := hrel
        obtain ⟨wq, rfl⟩ : ∃ q : World, q = wr := ⟨_, rfl⟩
        by_cases hlt : i < lz
        · have hnx : Hid (L3 ++ (List.replicate i 48 ++ [48]) = L3 ++ List.replicate (i + 1) 48) := by
            unfold Hid
            rw [List.replicate_succ']
          have hlen : (L3 ++ List.replicate i 48).length ≤ 1073741824 := by simp only [List.length_append, List.length_replicate]; omega
          have hA4' := hide hA4
          clear hA4
          go_wp2_with (at_builtin; refine wpList_app1 rfl _ _ rfl w v _ (L3 ++ List.replicate i 48) 48 _ (unhide hA4') rfl _ rfl hlen ?_)
          intro v5 w5 hA5
          rw [unhide hnx] at hA5
          have hA5' := hide hA5
          clear hA5
          go_wp2
          go_roundw
          case rel => exact ⟨i + 1, by omega, by go_num, unhide hA5'⟩
          case measure => simp [intOf]; omega
        · have hie : i = lz := by omega
          subst hie
          obtain ⟨L4, hL4⟩ : ∃ L4, L4 = L3 ++ List.replicate i 48 := ⟨_, rfl⟩
          rw [← hL4] at hA4 hfin
          have hL4b : L4.length ≤ 1050580 := by rw [hL4, List.length_append, List.length_replicate]; omega
          have hA4' := hide hA4
          clear hA4 hL4
          go_upto_if 248 with fail
          go_loopw [0, 247] (fun bv iv wr => ∃ j : Nat, j ≤ m ∧ iv = .int .i64 j ∧ AppR w v (L4 ++ (ds.drop f.toNat).take j) bv wr) (fun _ iv _ => m - (intOf iv).toNat)
          case atStart => exact ⟨0, Nat.zero_le _, rfl, by simpa using unhide hA4'⟩
          case round =>
            clear hA4'
            obtain ⟨j, hj, rfl, hA5⟩ := hrel
            obtain ⟨wp, rfl⟩ : ∃ q : World, q = wr := ⟨_, rfl⟩
            by_cases hlt : j < m
            · obtain ⟨hf0, hfj⟩ := unhide hfm' j hlt
              obtain ⟨fn, rfl⟩ : ∃ fn : Nat, f = (fn : Int) := ⟨f.toNat, by omega⟩
              simp only [Int.toNat_natCast] at hfj hfin hA5 ⊢
              obtain ⟨x, hx⟩ : ∃ x, ds[fn + j]? = some x := ⟨ds[fn + j]'hfj, by simp⟩
              obtain ⟨b, rfl, hcx⟩ := unhide hD' _ hA5.grown (fn + j) x hx
              unfold byteV at hcx
              have hnx : Hid (L4 ++ ((ds.drop fn).take j ++ [x]) = L4 ++ (ds.drop fn).take (j + 1)) := by
                unfold Hid
                rw [List.take_add_one, List.getElem?_drop, hx]; simp
              have hlen : (L4 ++ (ds.drop fn).take j).length ≤ 1073741824 := by simp only [List.length_append, List.length_take, List.length_drop]; omega
              have hfl : fn ≤ 800 := by omega
              have hbn : fn + j < n := by omega
              have hA5' := hide hA5
              clear hA5 hx
              go_wp2_with (at_builtin; refine wpList_app1 rfl _ _ rfl w v _ (L4 ++ (ds.drop fn).take j) x _ (unhide hA5') rfl _ rfl hlen ?_)
              intro v6 w6 hA6
              rw [unhide hnx] at hA6
              have hA6' := hide hA6
              clear hA6
              go_wp2
              go_roundw
              case rel => exact ⟨j + 1, by omega, by go_num, unhide hA6'⟩
              case measure => simp [intOf]; omega
            · have hje : j = m := by omega
              subst hje
              obtain ⟨L5, hL5⟩ : ∃ L5, L5 = L4 ++ (ds.drop f.toNat).take j := ⟨_, rfl⟩
              rw [← hL5] at hA5 hfin
              have hL5b : L5.length ≤ 1050582 := by rw [hL5]; simp only [List.length_append, List.length_take]; omega
              have hA5' := hide hA5
              clear hA5 hL5
              go_upto_if 262 with fail
              go_loopw [0, 261] (fun bv iv wr => ∃ k : Nat, k ≤ tz ∧ iv = .int .i64 k ∧ AppR w v (L5 ++ List.replicate k 48) bv wr) (fun _ iv _ => tz - (intOf iv).toNat)
              case atStart => exact ⟨0, Nat.zero_le _, rfl, by simpa using unhide hA5'⟩
              case round =>
                clear hA5'
                obtain ⟨k, hk, rfl, hA6⟩ := hrel
                obtain ⟨wo, rfl⟩ : ∃ q : World, q = wr := ⟨_, rfl⟩
                by_cases hlt : k < tz
                · have hnx : Hid (L5 ++ (List.replicate k 48 ++ [48]) = L5 ++ List.replicate (k + 1) 48) := by
                    unfold Hid
                    rw [List.replicate_succ']
                  have hlen : (L5 ++ List.replicate k 48).length ≤ 1073741824 := by simp only [List.length_append, List.length_replicate]; omega
                  have hA6' := hide hA6
                  clear hA6
                  go_wp2_with (at_builtin; refine wpList_app1 rfl _ _ rfl w v _ (L5 ++ List.replicate k 48) 48 _ (unhide hA6') rfl _ rfl hlen ?_)
                  intro v7 w7 hA7
                  rw [unhide hnx] at hA7
                  have hA7' := hide hA7
                  clear hA7
                  go_wp2
                  go_roundw
                  case rel => exact ⟨k + 1, by omega, by go_num, unhide hA7'⟩
                  case measure => simp [intOf]; omega
                · have hke : k = tz := by omega
                  subst hke
                  rw [unhide hfin] at hA6
                  have hA6' := hide hA6
                  clear hA6
                  go_wp2
                  go_ret
                  exact ⟨_, rfl, unhide hA6'⟩

end Go.Proofs.Qxb6614069aDoor
