import Derived.Test.Qxb6614069aDoorDist5
namespace Go.Proofs.Qxb6614069aDoor
open Go.RowKit Go.Lib Ieee
set_option exponentiation.threshold 3000

theorem dist_fin (b : Nat) (hb : b < 18446744073709551616) (h : fExp b ≠ 2047) (w : World) :
    Calls Tryd.prog 21 #[.string (bstr (fl b)), .float .f64 b] w fun e w' => e = .returned (.bool true) ∧ ∃ k, w' = w.drewN k := by
  have hP := dparts (cents b)
  have hlen := fl_length b
  rw [fl_cents b h] at hlen ⊢
  have hn : nDigits (cents b / 100) ≤ 400 := by
    have h1 : (twoDec (fNeg b) (cents b)).length = (if fNeg b then [45] else ([] : List UInt8)).length + nDigits (cents b / 100) + 3 := by
      unfold twoDec
      simp only [List.length_append, decDigits_length, List.length_cons, List.length_nil]
    omega
  refine dist_walk b (fAbs b) (cents b) (fNeg b) _ _ _ _ _ w hP hn (order_self (read_fin b hb h)) (run_sub_self b hb h) (order_self (s := false) (m := 0) (i := -1074) (by decide)) ?_ ?_ ?_
  · by_cases h0 : fX b = 0
    · obtain ⟨h1, h2, h3⟩ := sign_zero b hb h h0
      exact .inl ⟨h1, _, h2, h3⟩
    · exact .inr (sign_some b hb h h0)
  · cases hS : fNeg b
    · rw [if_neg (by decide)]
      refine ⟨?_, fAbs_pos b hS⟩
      unfold twoDec
      rw [if_neg (by decide), List.nil_append]
    · rw [if_pos rfl]
      have e1 : twoDec true (cents b) = [45] ++ (decDigits (cents b / 100) ++ [46] ++ [dg (cents b) 1, dg (cents b) 0]) := by
        unfold twoDec
        rw [if_pos rfl, List.append_assoc, List.append_assoc, List.append_assoc]
      rw [e1]
      have h1 := bstr_tail [45] (decDigits (cents b / 100) ++ [46] ++ [dg (cents b) 1, dg (cents b) 0])
      have e2 : (bstr ([45] ++ (decDigits (cents b / 100) ++ [46] ++ [dg (cents b) 1, dg (cents b) 0]))).size = (bstr (decDigits (cents b / 100) ++ [46] ++ [dg (cents b) 1, dg (cents b) 0])).size + 1 := by
        rw [bstr_size, bstr_size, List.length_append, Nat.add_comm]; rfl
      refine ⟨e2, fun h0 => bstr_at _ _ _ rfl h0, ?_, neg_abs b hb hS⟩
      rw [e2] at h1
      exact h1
  · by_cases hX : 10000000000000 * 2 ^ 1120 ≤ fX b
    · exact .inl ⟨big_order b hb h hX, big_digits b h hX⟩
    · obtain ⟨c1, c2⟩ := small_digits b h hX
      obtain ⟨r2, r3, m1, m2, m3, m4⟩ := diff_ok b hb h hX
      obtain ⟨I, i1, i2, i3⟩ := int_ok b hb h hX
      refine .inr ⟨small_order b hb h hX, c2, c1, r2, r3, I, fun w => run_float .mul _ _ _ m1 w, fun w => run_float .sub _ _ _ (by rw [floatOfNat]; exact m2) w, m3, m4, i1, fun w => ?_, fun ho => i3 (by rw [floatOfNat] at ho; exact ho)⟩
      exact run_convert_float_int (P := Tryd.prog) w 23 2 .f64 .i64 _ _ (by rw [Tryd.underlying23]; rfl) Tryd.underlying2 i2

theorem dist_any (b : Nat) (hb : b < 18446744073709551616) (w : World) :
    Calls Tryd.prog 21 #[.string (bstr (fl b)), .float .f64 b] w fun e w' => e = .returned (.bool true) ∧ ∃ k, w' = w.drewN k := by
  by_cases h : fExp b = 2047
  · unfold fl
    rw [if_pos h]
    by_cases h0 : fMan b = 0
    · rw [if_neg (by omega)]
      have h1 := dist_inf b hb h h0 w
      cases hS : fNeg b <;> rw [hS] at h1 <;> exact h1
    · rw [if_pos h0]
      exact dist_nan b hb h h0 w
  · exact dist_fin b hb h w

end Go.Proofs.Qxb6614069aDoor
