import Derived.Test.Qxb6614069aDoorFtoa4
namespace Go.Proofs.Qxb6614069aDoor
open Go.RowKit Go.Lib

/-- What '%.2f' prints of the float with the bits b. -/
def fl (b : Nat) : List UInt8 :=
  if fExp b = 2047 then (if fMan b ≠ 0 then [78, 97, 78] else if fNeg b then [45, 73, 110, 102] else [43, 73, 110, 102])
  else if fExp b < 1014 then efText (fNeg b) [] 0
  else if fExp b ≤ 1075 then fastText (fNeg b) (fixU ((fMan b + 4503599627370496) * 2048) (fP (fExp b)) (fN (fExp b)) (fS (fExp b)))
  else slowText (fNeg b) ((fMan b + 4503599627370496) * 2 ^ (fExp b - 1075))

/-- The tables of the library that the road reads. -/
structure Tabs (w : World) : Prop where
  pow : PowTab w
  powc : PowC w
  p10 : P10 w
  ch : Cheats w
  opt : w.cell? ⟨2, 0, none⟩ = some (.bool true)

/-- They stand as long as nothing below B turns. -/
def TabsB (B : Nat) (w : World) : Prop := ∀ wr, Below B w wr → Tabs wr

theorem TabsB.here {B : Nat} {w : World} (h : TabsB B w) : Tabs w := h w (Below.refl _ _)
theorem TabsB.below {B : Nat} {w w' : World} (h : TabsB B w) (hb : Below B w w') : TabsB B w' := fun wr hwr => h wr (hb.trans hwr)
theorem TabsB.pow {B : Nat} {w : World} (h : TabsB B w) : PowTabB B w := fun wr hwr => (h wr hwr).pow

theorem below_grown {B : Nat} {w w' : World} {r : Option Nat} (h : w.grownBy w' r) (hB : B ≤ w.heap.size) (hr : ∀ k, r = some k → B ≤ k) : Below B w w' := (Below.refl B w).grown h hB hr

theorem ftoa_any (b : Nat) (hb : b < 18446744073709551616) (v : Value) (L : List UInt8) (w : World) (hown : w.ownsRow 0 5 1 v L.length (L.map byteV)) (hL : L.length ≤ 1048576) (B : Nat) (hB : B ≤ w.heap.size) (hT : TabsB B w) :
    Calls Tryd.prog 36 #[v, .float .f64 b, .int .u8 102, .int .i64 2] w (AppP w v (L ++ fl b)) := by
  have hE : fExp b < 2048 := by unfold fExp; omega
  have c2 := hT.here.opt
  unfold fl
  by_cases h1 : fExp b = 2047
  · rw [if_pos h1]
    by_cases h2 : fMan b ≠ 0
    · rw [if_pos h2]; exact ftoa_nan b hb h1 h2 v L w hown hL
    · rw [if_neg h2]; exact ftoa_inf b hb h1 (by omega) v L w hown hL
  · rw [if_neg h1]
    by_cases h3 : fExp b < 1014
    · rw [if_pos h3]
      by_cases h4 : fExp b = 0
      · by_cases h5 : fMan b = 0
        · exact ftoa_zero b hb h4 h5 v L w hown hL
        · exact ftoa_tiny0 b hb h4 h5 v L w hown hL c2
      · exact ftoa_tiny b hb (by omega) (by omega) v L w hown hL c2
    · rw [if_neg h3]
      by_cases h4 : fExp b ≤ 1075
      · rw [if_pos h4]
        exact ftoa_fast b hb (by omega) h4 v L w hown hL c2 (fun wr hwr => by
          have h := hT wr (below_grown hwr hB (by simp))
          exact ⟨h.p10, h.powc, h.pow⟩)
      · rw [if_neg h4]
        exact ftoa_slow b hb (by omega) (by omega) v L w hown hL c2 (fun wr D hD hwr => (hT wr (below_grown hwr hB (by rintro k ⟨⟩; omega))).ch)

theorem fast_dp (u : Nat × Nat) (h : u.1 < 18446744073709551616) : ((nDigits u.1 : Int) + -(u.2 : Int)).toNat ≤ 20 := by
  have := nDigits_le20 u.1 h
  omega

theorem fl_bytes (b : Nat) : ∀ c ∈ fl b, c ≠ 10 ∧ c ≠ 44 := by
  have he0 : ∀ S, ∀ c ∈ efText S [] 0, c ≠ 10 ∧ c ≠ 44 := fun S => efText_bytes S [] 0 (by simp)
  intro c hc
  unfold fl at hc
  split at hc
  · split at hc
    · revert c; decide
    · split at hc
      · revert c; decide
      · revert c; decide
  · split at hc
    · exact he0 _ c hc
    · split at hc
      · unfold fastText at hc
        split at hc
        · exact he0 _ c hc
        · exact efText_bytes _ _ _ (digs_dig _) c hc
      · unfold slowText at hc
        rcases List.mem_append.1 hc with hc | hc
        · rcases List.mem_append.1 hc with hc | hc
          · split at hc
            · exact (by decide : ∀ c ∈ ([45] : List UInt8), c ≠ 10 ∧ c ≠ 44) c hc
            · simp at hc
          · exact isDig_ne (decDigits_dig _ c hc)
        · exact (by decide : ∀ c ∈ ([46, 48, 48] : List UInt8), c ≠ 10 ∧ c ≠ 44) c hc

set_option exponentiation.threshold 2000 in
theorem pow1024 : 2 ^ 1024 < 10 ^ 309 := by decide +kernel

set_option exponentiation.threshold 2000 in
theorem slow_lt (b : Nat) (h : fExp b ≤ 2046) : (fMan b + 4503599627370496) * 2 ^ (fExp b - 1075) < 10 ^ 309 := by
  have h1 : fMan b + 4503599627370496 ≤ 2 ^ 53 := by unfold fMan; omega
  have h2 : 2 ^ (fExp b - 1075) ≤ 2 ^ 971 := Nat.pow_le_pow_right (by decide) (by omega)
  have h3 := Nat.mul_le_mul h1 h2
  rw [← Nat.pow_add] at h3
  exact Nat.lt_of_le_of_lt h3 pow1024

theorem fl_length (b : Nat) : (fl b).length ≤ 400 := by
  have hE : fExp b < 2048 := by unfold fExp; omega
  have he0 : ∀ S, (efText S [] 0).length ≤ 400 := fun S => by have := efText_length S [] 0; simp at this; omega
  unfold fl
  by_cases h1 : fExp b = 2047
  · rw [if_pos h1]
    split
    · simp
    · split <;> simp
  · rw [if_neg h1]
    split
    · exact he0 _
    · split
      · rename_i h3 h4
        have hlt := fixU_lt ((fMan b + 4503599627370496) * 2048) (fP (fExp b)) (fN (fExp b)) (fS (fExp b)) (by unfold fMan; omega) (nps (fExp b) (by omega) h4).s1
        have hdp := fast_dp (fixU ((fMan b + 4503599627370496) * 2048) (fP (fExp b)) (fN (fExp b)) (fS (fExp b))) (by omega)
        unfold fastText
        split
        · exact he0 _
        · have := efText_length (fNeg b) (digs (fixU ((fMan b + 4503599627370496) * 2048) (fP (fExp b)) (fN (fExp b)) (fS (fExp b))).1) ((nDigits (fixU ((fMan b + 4503599627370496) * 2048) (fP (fExp b)) (fN (fExp b)) (fS (fExp b))).1 : Int) + -((fixU ((fMan b + 4503599627370496) * 2048) (fP (fExp b)) (fN (fExp b)) (fS (fExp b))).2 : Int))
          omega
      · have hlt := slow_lt b (by omega)
        have h9 := nd_le_of_lt (Nat.mul_pos (Nat.succ_le_of_lt (Nat.lt_of_lt_of_le (by decide : 0 < 4503599627370496) (Nat.le_add_left _ _))) (Nat.pow_pos (by decide))) hlt
        have hl := decDigits_length ((fMan b + 4503599627370496) * 2 ^ (fExp b - 1075))
        unfold slowText
        simp only [List.length_append, hl]
        split <;> simp <;> omega

set_option maxRecDepth 100000 in
set_option maxHeartbeats 2000000 in
theorem appendFloat_any (b : Nat) (hb : b < 18446744073709551616) (v : Value) (L : List UInt8) (w : World) (hown : w.ownsRow 0 5 1 v L.length (L.map byteV)) (hL : L.length ≤ 1048576) (B : Nat) (hB : B ≤ w.heap.size) (hT : TabsB B w) :
    Calls Tryd.prog 26 #[v, .float .f64 b, .int .u8 102, .int .i64 2, .int .i64 64] w (AppP w v (L ++ fl b)) := by
  have HC := hide (ftoa_any b hb v L w hown hL B hB hT)
  obtain ⟨T, hTd⟩ : ∃ T, T = L ++ fl b := ⟨_, rfl⟩
  rw [← hTd] at HC ⊢
  clear hown hT hTd
  go_enter Tryd.func26, Tryd.ntmps26
  go_wp2_with fail
  refine (unhide HC).mono ?_
  rintro e w' ⟨v', rfl, hA⟩
  have hA' := hide hA
  clear hA
  go_wp2
  go_ret
  exact ⟨_, rfl, unhide hA'⟩

set_option maxRecDepth 100000 in
set_option maxHeartbeats 2000000 in
theorem appendFloatP_any (b : Nat) (hb : b < 18446744073709551616) (v : Value) (L : List UInt8) (w : World) (hown : w.ownsRow 0 5 1 v L.length (L.map byteV)) (hL : L.length ≤ 1048576) (B : Nat) (hB : B ≤ w.heap.size) (hT : TabsB B w) :
    Calls Tryd.prog 17 #[v, .float .f64 b, .int .u8 102, .int .i64 2, .int .i64 64] w (AppP w v (L ++ fl b)) := by
  have HC := hide (appendFloat_any b hb v L w hown hL B hB hT)
  obtain ⟨T, hTd⟩ : ∃ T, T = L ++ fl b := ⟨_, rfl⟩
  rw [← hTd] at HC ⊢
  clear hown hT hTd
  go_enter Tryd.func17, Tryd.ntmps17
  go_wp2_with fail
  refine (unhide HC).mono ?_
  rintro e w' ⟨v', rfl, hA⟩
  have hA' := hide hA
  clear hA
  go_wp2
  go_ret
  exact ⟨_, rfl, unhide hA'⟩

end Go.Proofs.Qxb6614069aDoor
