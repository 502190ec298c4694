import Derived.Test.Qxb6614069aDoorCents
namespace Go.Proofs.Qxb6614069aDoor
open Go.RowKit Go.Lib

/-- What is printed of H hundredths. -/
def twoDec (S : Bool) (H : Nat) : List UInt8 := (if S then [45] else []) ++ decDigits (H / 100) ++ [46] ++ [dg H 1, dg H 0]

theorem getD_drop {α : Type} (l : List α) (k j : Nat) (d : α) : (l.drop k).getD j d = l.getD (k + j) d := by
  rw [List.getD_eq_getElem?_getD, List.getD_eq_getElem?_getD, List.getElem?_drop]

theorem pad_two (l : List UInt8) : l.take (min 2 l.length) ++ List.replicate (2 - min 2 l.length) 48 = [l.getD 0 48, l.getD 1 48] := by
  match l with
  | [] => rfl
  | [x] => rfl
  | x :: y :: r =>
    have e : min 2 (x :: y :: r).length = 2 := by simp
    rw [e]
    rfl

theorem efFrac_at (ds : List UInt8) (dp : Int) : efFrac ds dp = [if dp < 0 then 48 else ds.getD dp.toNat 48, if dp + 1 < 0 then 48 else ds.getD (dp + 1).toNat 48] := by
  unfold efFrac
  by_cases h2 : dp ≤ -2
  · have e1 : efLz dp = 2 := by unfold efLz; omega
    have e2 : efM dp ds.length = 0 := by unfold efM; rw [e1]; omega
    have e3 : efTz dp ds.length = 0 := by unfold efTz; rw [e1]; omega
    rw [e1, e2, e3, if_pos (by omega), if_pos (by omega)]
    rfl
  · by_cases h1 : dp = -1
    · subst h1
      have e1 : efLz (-1) = 1 := by decide
      have e2 : efM (-1) ds.length = min 1 ds.length := by unfold efM; rw [e1]; omega
      have e3 : efTz (-1) ds.length = 1 - min 1 ds.length := by unfold efTz; rw [e1, e2]
      rw [e1, e2, e3, if_pos (by decide), if_neg (by decide)]
      cases ds with
      | nil => rfl
      | cons x r =>
        have e : min 1 (x :: r).length = 1 := by simp
        rw [e]
        rfl
    · have e1 : efLz dp = 0 := by unfold efLz; omega
      have e2 : efM dp ds.length = min 2 (ds.drop dp.toNat).length := by unfold efM; rw [e1, List.length_drop]; omega
      have e3 : efTz dp ds.length = 2 - min 2 (ds.drop dp.toNat).length := by unfold efTz; rw [e1, e2]
      have e4 : (dp + ((0 : Nat) : Int)).toNat = dp.toNat := by omega
      rw [e1, e2, e3, e4, if_neg (by omega), if_neg (by omega), List.replicate_zero, List.nil_append, pad_two, getD_drop, getD_drop]
      have e5 : dp.toNat + 1 = (dp + 1).toNat := by omega
      rw [e5, Nat.add_zero]

theorem efInt_at (ds : List UInt8) (dp : Int) (h : 0 < dp) : efInt ds dp = (List.range dp.toNat).map fun i => ds.getD i 48 := by
  unfold efInt
  rw [if_pos h]
  apply List.ext_getElem?
  intro i
  rw [List.getElem?_map]
  by_cases hi : i < dp.toNat
  · rw [List.getElem?_range hi, Option.map_some]
    by_cases hd : i < ds.length
    · rw [List.getElem?_append_left (by rw [List.length_take]; omega), List.getElem?_take_of_lt hi, List.getD_eq_getElem?_getD, List.getElem?_eq_getElem hd]
      rfl
    · have hl : (ds.take dp.toNat).length = ds.length := by rw [List.length_take]; omega
      rw [List.getElem?_append_right (by omega), hl, List.getElem?_replicate, if_pos (by omega), List.getD_eq_getElem?_getD, List.getElem?_eq_none (by omega)]
      rfl
  · rw [List.getElem?_eq_none (by rw [List.length_append, List.length_take, List.length_replicate]; omega), List.getElem?_eq_none (by rw [List.length_range]; omega)]
    rfl

theorem trimN_zero (f : Nat → UInt8) : ∀ n i, trimN f n ≤ i → i < n → f i = 48
  | 0, i, _, h => by omega
  | n + 1, i, h1, h2 => by
    unfold trimN at h1
    by_cases h : f n = 48
    · rw [if_pos h] at h1
      by_cases e : i = n
      · rw [e]; exact h
      · exact trimN_zero f n i h1 (by omega)
    · rw [if_neg h] at h1; omega

theorem digs_getD (d i : Nat) (hi : i < nDigits d) : (digs d).getD i 48 = digF d i := by
  unfold digs
  rw [List.getD_eq_getElem?_getD, List.getElem?_map]
  by_cases h : i < trimN (digF d) (nDigits d)
  · rw [List.getElem?_range h]; rfl
  · rw [List.getElem?_eq_none (by rw [List.length_range]; omega), trimN_zero (digF d) (nDigits d) i (by omega) hi]
    rfl

theorem nDigits_100 (H : Nat) (h : 100 ≤ H) : nDigits H = nDigits (H / 100) + 2 := by
  rw [nDigits_big (by omega), nDigits_big (by omega), Nat.div_div_eq_div_mul]

theorem dg_100 (H j : Nat) : dg (H / 100) j = dg H (j + 2) := by
  rw [dg_succ, dg_succ, Nat.div_div_eq_div_mul]

theorem dec_small : decDigits 0 = [48] := decDigits_one (by decide)

theorem dg1_small (H : Nat) (h : H < 10) : dg H 1 = 48 := by
  apply UInt8.toNat_inj.1
  rw [dg_toNat, Nat.pow_one, Nat.div_eq_of_lt h]
  rfl

theorem twoDec_zero (S : Bool) : efText S [] 0 = twoDec S 0 := by
  have e1 : dg 0 1 = 48 := dg1_small 0 (by decide)
  have e0 : dg 0 0 = 48 := by apply UInt8.toNat_inj.1; rw [dg_toNat]; rfl
  unfold efText twoDec
  rw [efFrac_at, e1, e0, Nat.zero_div, dec_small]
  rfl

theorem fast_two (S : Bool) (H : Nat) : fastText S (H, 2) = twoDec S H := by
  unfold fastText
  by_cases h0 : H = 0
  · rw [if_pos h0, h0]; exact twoDec_zero S
  · rw [if_neg h0]
    have hp := nDigits_pos H
    dsimp only
    unfold efText twoDec
    have eI : efInt (digs H) ((nDigits H : Int) + -((2 : Nat) : Int)) = decDigits (H / 100) := by
      by_cases h1 : 100 ≤ H
      · have hn := nDigits_100 H h1
        have hp2 := nDigits_pos (H / 100)
        rw [efInt_at _ _ (by omega), decDigits_eq]
        have e1 : ((nDigits H : Int) + -((2 : Nat) : Int)).toNat = nDigits (H / 100) := by omega
        rw [e1]
        apply List.map_congr_left
        intro i hi
        rw [List.mem_range] at hi
        rw [digs_getD H i (by omega), dg_100]
        unfold digF
        congr 1
        omega
      · have hn : nDigits H ≤ 2 := nd_le_of_lt (by omega) (by omega)
        unfold efInt
        rw [if_neg (by omega), Nat.div_eq_of_lt (by omega), dec_small]
    have eF : efFrac (digs H) ((nDigits H : Int) + -((2 : Nat) : Int)) = [dg H 1, dg H 0] := by
      rw [efFrac_at]
      by_cases h1 : H < 10
      · have hn := nDigits_small h1
        rw [hn, if_pos (by decide), if_neg (by decide), dg1_small H h1]
        have e : ((1 : Nat) : Int) + -((2 : Nat) : Int) + 1 = 0 := by decide
        rw [e, digs_getD H _ (by rw [hn]; decide)]
        unfold digF
        rw [hn]
        rfl
      · have hn : 2 ≤ nDigits H := by
          have := lt_nd_of_le (v := H) (i := 1) (by omega)
          omega
        rw [if_neg (by omega), if_neg (by omega), digs_getD H _ (by omega), digs_getD H _ (by omega)]
        unfold digF
        congr 2
        · omega
        · congr 1; omega
    rw [eI, eF]

/-- The hundredths that are printed of the float with the bits b. -/
def cents (b : Nat) : Nat :=
  if fExp b < 1014 then 0
  else if fExp b ≤ 1075 then uround (stick (2 ^ (1075 - fExp b)) (400 * (fMan b + 4503599627370496)))
  else 100 * ((fMan b + 4503599627370496) * 2 ^ (fExp b - 1075))

theorem slow_two (S : Bool) (V : Nat) : slowText S V = twoDec S (100 * V) := by
  unfold slowText twoDec
  rw [Nat.mul_div_cancel_left _ (by decide)]
  have e1 : dg (100 * V) 1 = 48 := by apply UInt8.toNat_inj.1; rw [dg_toNat]; show 48 + 100 * V / 10 ^ 1 % 10 = 48; omega
  have e0 : dg (100 * V) 0 = 48 := by apply UInt8.toNat_inj.1; rw [dg_toNat]; show 48 + 100 * V / 10 ^ 0 % 10 = 48; omega
  rw [e1, e0, List.append_assoc _ [46]]
  rfl

theorem fl_cents (b : Nat) (h : fExp b ≠ 2047) : fl b = twoDec (fNeg b) (cents b) := by
  unfold fl cents
  rw [if_neg h]
  by_cases h1 : fExp b < 1014
  · rw [if_pos h1, if_pos h1]; exact twoDec_zero _
  · rw [if_neg h1, if_neg h1]
    by_cases h2 : fExp b ≤ 1075
    · rw [if_pos h2, if_pos h2, fixU_eq _ _ (by unfold fMan; omega) (by omega) h2, fast_two]
    · rw [if_neg h2, if_neg h2, slow_two]

end Go.Proofs.Qxb6614069aDoor
