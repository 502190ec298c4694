import Derived.Test.Qxb6614069aDoorRow2
namespace Go.Proofs.Qxb6614069aDoor
open Go.RowKit Go.Lib

theorem rowOK_any (st : Int) (h0 : -9223372036854775808 ≤ st) (h1 : st ≤ 9223372036854775807) (a b d : Nat) (ha : a < 18446744073709551616) (hb : b < 18446744073709551616) (hd : d < 18446744073709551616) (w : World) :
    Calls Tryd.prog 10 #[.string (bstr (rowText st a b d)), .int .i64 st, .int .u64 (a : Int), .int .u64 (b : Int), .float .f64 d] w fun e w' => e = .returned (.bool true) ∧ w.grownBy w' none := by
  have hP := rparts st a b d
  have hl := (row_length st a b d h0 h1 ha hb).2
  have hs := hP.sz
  rw [bstr_size] at hs
  exact row_walk _ _ _ _ _ _ _ _ _ _ st a b d w hP (by omega) (fun wx => itoa_any wx st h0 h1) (fun wx => utoa_any wx a ha) (fun wx => utoa_any wx b hb) (fun wx => dist_any d hd wx)

set_option maxRecDepth 100000 in
set_option maxHeartbeats 4000000 in
theorem match_any (w : World) (ln st : Int) (h0 : -9223372036854775808 ≤ st) (h1 : st ≤ 9223372036854775807) (a b d : Nat) (ha : a < 18446744073709551616) (hb : b < 18446744073709551616) (hd : d < 18446744073709551616) (htab : TabsB w.heap.size w) :
    Calls Tryd.prog 3 #[.int .i64 ln, .int .i64 st, .int .u64 (a : Int), .int .u64 (b : Int), .float .f64 d] w fun e w' => e = .returned (.bool true) ∧ Below w.heap.size w w' := by
  have HN := hide (zzNew_any w)
  have htab' := hide htab
  have HR := hide (fun wx => rowOK_any st h0 h1 a b d ha hb hd wx)
  have hl := (row_length st a b d h0 h1 ha hb).2
  obtain ⟨T, hT⟩ : ∃ T, T = header ++ rowText st a b d := ⟨_, rfl⟩
  have hTl : T.length ≤ 1000 := by rw [hT, List.length_append, header_length]; omega
  have hTs : Hid (33 ≤ (bstr T).size ∧ (bstr T).extract 0 (bstr header).size = bstr header ∧ (bstr T).extract 33 (bstr T).size = bstr (rowText st a b d)) := by
    refine ⟨?_, ?_, ?_⟩
    · rw [bstr_size, hT, List.length_append, header_length]; omega
    · rw [hT]; exact bstr_head _ _
    · rw [hT]; exact bstr_tail header (rowText st a b d)
  have HW := hide (fun (wx : World) (C bb : Nat) (hC : CW w.heap.size wx C bb header) (hB : Below w.heap.size w wx) => (twrite_any w.heap.size wx C bb header hC (by rw [header_length]; omega) ((unhide htab').below hB) (.int .i64 ln) st h0 h1 a b d ha hb hd ⟨ln, rfl⟩))
  rw [← hT] at HW
  obtain ⟨R, hR⟩ : ∃ R, R = bstr (rowText st a b d) := ⟨_, rfl⟩
  rw [← hR] at HR hTs
  clear htab hT hR hl
  go_enter Tryd.func3, Tryd.ntmps3
  go_wp2_with fail
  refine (unhide HN).mono ?_
  rintro e w1 ⟨C, bb, rfl, q1, q2, q3⟩
  have HW1 := hide (unhide HW w1 C bb q1 q2)
  have q2' := hide q2
  clear q1 q2 q3 HW HN htab'
  go_wp2_with fail
  refine (unhide HW1).mono ?_
  rintro e w2 ⟨rfl, q4, q5⟩
  have HF := hide (zzFlush_any w.heap.size w2 C bb T q4 (by omega))
  have q6 : Hid (Below w.heap.size w w2) := (unhide q2').trans q5
  clear q4 q5 q2' HW1
  go_wp2_with fail
  refine (unhide HF).mono ?_
  rintro e w3 ⟨rfl, ⟨v, q7⟩, q8⟩
  have HT := hide (zzText_any w3 bb v T q7)
  have q9 : Hid (Below w.heap.size w w3) := (unhide q6).trans q8
  clear q7 q8 q6 HF
  go_wp2_with fail
  refine (unhide HT).mono ?_
  rintro e w4 ⟨rfl, k, hw⟩
  have q10 : Hid (Below w.heap.size w w4) := by rw [hw]; exact (unhide q9).trans ⟨rfl, rfl, rfl, Nat.le_refl _, fun _ _ => rfl⟩
  clear hw HT q9
  have HP := hide (hasPrefix_any w4 (bstr T) (bstr header) (by have := (unhide hTs).1; rw [bstr_size header, header_length]; exact this) (unhide hTs).2.1)
  go_wp2_with fail
  refine (unhide HP).mono ?_
  rintro e w5 ⟨rfl, hw⟩
  replace hw := hw.symm
  subst hw
  obtain ⟨s1, -, s3⟩ := unhide hTs
  have s1I : (33 : Int) ≤ ((bstr T).size : Int) := by omega
  have HR1 := hide (unhide HR w4)
  clear HP HR hTs
  go_wp2_with fail
  refine (unhide HR1).mono ?_
  rintro e w6 ⟨rfl, hg⟩
  have q11 : Hid (Below w.heap.size w w6) := (unhide q10).grown hg (unhide q10).size (by simp)
  clear hg q10 HR1
  go_wp2
  go_ret
  exact ⟨rfl, unhide q11⟩

end Go.Proofs.Qxb6614069aDoor
