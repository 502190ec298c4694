import Derived.Test.Qxb6614069aDoorFtoaP
namespace Go.Proofs.Qxb6614069aDoor
open Go.RowKit Go.Lib

theorem efg_none (v : Value) (L : List UInt8) (w : World) (hown : w.ownsRow 0 5 1 v L.length (L.map byteV)) (hL : L.length ≤ 1048576) (S : Bool) (n : Nat) :
    Calls Tryd.prog 46 #[v, .bool S, .slice (some ⟨w.heap.size, 0, none⟩) 24 24, .int .i64 0, .int .i64 ([] : List UInt8).length, .int .i64 2, .int .u8 102, .bool false] ((w.drewN n).alloc (.cells Lib.zeros24 77)) (AppP ((w.drewN n).alloc (.cells Lib.zeros24 77)) v (L ++ efText S [] 0)) := 
  fmtEFG_any v L _ ((((AppR.refl hown).quiet (grownBy_drew w n none)).alloc _).own) hL S _ 24 24 [] 0 (by simp) (by omega) (by omega) (by omega) (by omega) (by omega) (fun wr hwr j c hj => by simp at hj)

set_option maxRecDepth 100000 in
set_option maxHeartbeats 4000000 in
theorem ftoa_tiny0 (b : Nat) (hb : b < 18446744073709551616) (hE : fExp b = 0) (hF : fMan b ≠ 0) (v : Value) (L : List UInt8) (w : World) (hown : w.ownsRow 0 5 1 v L.length (L.map byteV)) (hL : L.length ≤ 1048576) (c2 : w.cell? ⟨2, 0, none⟩ = some (.bool true)) :
    Calls Tryd.prog 36 #[v, .float .f64 b, .int .u8 102, .int .i64 2] w (AppP w v (L ++ efText (fNeg b) [] 0)) := by
  obtain ⟨p1, p2, p3⟩ := parts b hb
  have hA := hide (AppR.refl hown)
  have h43 := f43_run b
  obtain ⟨F, hFd⟩ : ∃ F, F = fMan b := ⟨_, rfl⟩
  obtain ⟨S, hSd⟩ : ∃ S, S = fNeg b := ⟨_, rfl⟩
  obtain ⟨E, hEd⟩ : ∃ E, E = fExp b := ⟨_, rfl⟩
  rw [← hFd] at p3
  rw [← hSd] at p1
  rw [← hEd] at p2
  have hF52 : F < 4503599627370496 := by rw [hFd]; unfold fMan; omega
  have hFI : ¬ ((F : Int) = 0) := by omega
  rw [← hSd]
  have hEI : E = 0 := by omega
  subst hEI
  have HC := hide (fun n => efg_none v L w hown hL S n)
  obtain ⟨T, hT⟩ : ∃ T, T = L ++ efText S [] 0 := ⟨_, rfl⟩
  rw [← hT] at HC ⊢
  have HL : Hid (∀ n X, X = (1022 : Int) → Calls Tryd.prog 37 #[.int .i64 X] (w.drewN n) fun e w' => e = .returned (.int .i64 307) ∧ w' = w.drewN n) := fun n X hX => by
    subst hX
    exact log10_any 1022 (by omega) (by omega) (w.drewN n)
  clear hE hF hFd hSd hEd hown hT
  go_enter Tryd.func36, Tryd.ntmps36
  go_wp2
  go_quiet (fail)
  go_wp2_with fail
  refine (unhide HL nq _ ?_).mono ?_
  · omega
  rintro e w' ⟨rfl, hw⟩
  replace hw := hw.symm
  subst hw
  go_wp2_with fail
  refine (unhide HC nq).mono ?_
  rintro e w' ⟨v', rfl, hA2⟩
  have hA2' := hide ((((unhide hA).quiet (grownBy_drew w nq none)).alloc _).trans hA2)
  clear hA2
  go_wp2
  go_ret
  exact ⟨_, rfl, unhide hA2'⟩

set_option maxRecDepth 100000 in
set_option maxHeartbeats 4000000 in
theorem ftoa_tiny (b : Nat) (hb : b < 18446744073709551616) (hE1 : 1 ≤ fExp b) (hE2 : fExp b ≤ 1013) (v : Value) (L : List UInt8) (w : World) (hown : w.ownsRow 0 5 1 v L.length (L.map byteV)) (hL : L.length ≤ 1048576) (c2 : w.cell? ⟨2, 0, none⟩ = some (.bool true)) :
    Calls Tryd.prog 36 #[v, .float .f64 b, .int .u8 102, .int .i64 2] w (AppP w v (L ++ efText (fNeg b) [] 0)) := by
  obtain ⟨p1, p2, p3⟩ := parts b hb
  have hA := hide (AppR.refl hown)
  have h43 := f43_run b
  obtain ⟨F, hFd⟩ : ∃ F, F = fMan b := ⟨_, rfl⟩
  obtain ⟨S, hSd⟩ : ∃ S, S = fNeg b := ⟨_, rfl⟩
  obtain ⟨E, hEd⟩ : ∃ E, E = fExp b := ⟨_, rfl⟩
  rw [← hFd] at p3
  rw [← hSd] at p1
  rw [← hEd] at p2 hE1 hE2
  have hF52 : F < 4503599627370496 := by rw [hFd]; unfold fMan; omega
  rw [← hSd]
  have pM := man_or F hF52
  obtain ⟨M, hM⟩ : ∃ M, M = F + 4503599627370496 := ⟨_, rfl⟩
  rw [← hM] at pM
  have hMp : 1 ≤ M := by omega
  have hMI : ¬ ((M : Int) = 0) := by omega
  have hEn0 : ¬ ((E : Int) = 0) := by omega
  have hEn1 : ¬ ((E : Int) = 2047) := by omega
  have HC := hide (fun n => efg_none v L w hown hL S n)
  obtain ⟨T, hT⟩ : ∃ T, T = L ++ efText S [] 0 := ⟨_, rfl⟩
  rw [← hT] at HC ⊢
  obtain ⟨q, hq⟩ : ∃ q : Int, q = ((1023 : Int) - E) * 78913 / 262144 := ⟨_, rfl⟩
  have hq1 : 3 ≤ q := by omega
  have hq2 : q ≤ 307 := by omega
  have HL : Hid (∀ n X, X = (1023 : Int) - E → Calls Tryd.prog 37 #[.int .i64 X] (w.drewN n) fun e w' => e = .returned (.int .i64 q) ∧ w' = w.drewN n) := fun n X hX => by
    subst hX
    rw [hq]
    exact log10_any _ (by omega) (by omega) (w.drewN n)
  clear hFd hSd hEd hown hT hM hq
  go_enter Tryd.func36, Tryd.ntmps36
  go_wp2
  go_quiet (fail)
  go_wp2_with fail
  refine (unhide HL nq _ ?_).mono ?_
  · omega
  rintro e w' ⟨rfl, hw⟩
  replace hw := hw.symm
  subst hw
  go_wp2_with fail
  refine (unhide HC nq).mono ?_
  rintro e w' ⟨v', rfl, hA2⟩
  have hA2' := hide ((((unhide hA).quiet (grownBy_drew w nq none)).alloc _).trans hA2)
  clear hA2
  go_wp2
  go_ret
  exact ⟨_, rfl, unhide hA2'⟩

end Go.Proofs.Qxb6614069aDoor
