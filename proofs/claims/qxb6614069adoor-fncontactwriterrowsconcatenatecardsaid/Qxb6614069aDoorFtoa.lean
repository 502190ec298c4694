import Derived.Test.Qxb6614069aDoorFix2
import Derived.Test.Qxb6614069aDoorDec3
import Derived.Test.Qxb6614069aDoorEfg
import Derived.Laws.Externs
namespace Go.Proofs.Qxb6614069aDoor
open Go.RowKit Go.Lib

theorem f43_run (b : Nat) (w : World) : (callFunc 43 #[.float .f64 b]).run Tryd.prog w = .ok (.value (.int .u64 b)) w := by
  rw [run_callFunc_extern (e := Extern.MathFloatBits.float64bits) Tryd.func43 (by kernel_rfl) (by kernel_rfl) (by kernel_rfl) (by kernel_rfl)]
  rfl

theorem and_i64 (a b : Nat) (ha : a < 4611686018427387904) (hb : b < 4611686018427387904) : bits .and .i64 (a : Int) (b : Int) = ((a &&& b : Nat) : Int) := by
  have hx : a &&& b < 2 ^ 62 := Nat.and_lt_two_pow _ (by omega)
  have h1 : (BitVec.ofInt 64 (a : Int)).toNat = a := by
    rw [BitVec.ofInt_natCast, BitVec.toNat_ofNat]; exact Nat.mod_eq_of_lt (by omega)
  have h2 : (BitVec.ofInt 64 (b : Int)).toNat = b := by
    rw [BitVec.ofInt_natCast, BitVec.toNat_ofNat]; exact Nat.mod_eq_of_lt (by omega)
  show IntKind.i64.wrap ((BitVec.ofInt 64 (a : Int) &&& BitVec.ofInt 64 (b : Int)).toNat : Int) = _
  rw [BitVec.toNat_and, h1, h2, IntKind.wrap_i64]
  omega

/-- The parts of a float's bits. -/
def fNeg (b : Nat) : Bool := decide (b / 9223372036854775808 ≠ 0)
def fExp (b : Nat) : Nat := b / 4503599627370496 % 2048
def fMan (b : Nat) : Nat := b % 4503599627370496

/-- What the walk needs of them. -/
structure Parts (b : Nat) : Prop where
  neg : (((b : Int) / 9223372036854775808) != 0) = fNeg b
  exp : bits .and .i64 ((b : Int) / 4503599627370496) 2047 = ((fExp b : Nat) : Int)
  man : bits .and .u64 (b : Int) 4503599627370495 = ((fMan b : Nat) : Int)

theorem parts (b : Nat) (h : b < 18446744073709551616) : Parts b where
  neg := by
    unfold fNeg
    by_cases h0 : b / 9223372036854775808 = 0
    · have : (b : Int) / 9223372036854775808 = 0 := by omega
      rw [this]; simp [h0]
    · have : (b : Int) / 9223372036854775808 ≠ 0 := by omega
      simp [h0, this]
  exp := by
    have e : (b : Int) / 4503599627370496 = ((b / 4503599627370496 : Nat) : Int) := by omega
    have h2 := and_i64 (b / 4503599627370496) 2047 (by omega) (by decide)
    rw [Nat.and_two_pow_sub_one_eq_mod (b / 4503599627370496) 11] at h2
    rw [e]
    exact h2
  man := by
    have h2 := bits_and_u64_nat b 4503599627370495 h (by decide)
    rw [Nat.and_two_pow_sub_one_eq_mod b 52] at h2
    exact h2

theorem man_or (F : Nat) (h : F < 4503599627370496) : bits .or .u64 (F : Int) 4503599627370496 = ((F + 4503599627370496 : Nat) : Int) := by
  have h2 := bits_or_u64_nat F 4503599627370496 (by omega) (by decide)
  have h3 : F ||| 4503599627370496 = F + 4503599627370496 := by
    have := Nat.two_pow_add_eq_or_of_lt (i := 52) (b := F) (by omega) 1
    rw [show (2 : Nat) ^ 52 * 1 = 4503599627370496 by decide] at this
    rw [Nat.or_comm]
    omega
  rw [h3] at h2
  exact h2

set_option maxRecDepth 100000 in
set_option maxHeartbeats 4000000 in
theorem ftoa_nan (b : Nat) (hb : b < 18446744073709551616) (hE : fExp b = 2047) (hF : fMan b ≠ 0) (v : Value) (L : List UInt8) (w : World) (hown : w.ownsRow 0 5 1 v L.length (L.map byteV)) (hL : L.length ≤ 1048576) :
    Calls Tryd.prog 36 #[v, .float .f64 b, .int .u8 102, .int .i64 2] w (AppP w v (L ++ [78, 97, 78])) := by
  obtain ⟨p1, p2, p3⟩ := parts b hb
  have hA := hide (AppR.refl hown)
  have h43 := f43_run b
  obtain ⟨F, hFd⟩ : ∃ F, F = fMan b := ⟨_, rfl⟩
  obtain ⟨S, hSd⟩ : ∃ S, S = fNeg b := ⟨_, rfl⟩
  obtain ⟨E, hEd⟩ : ∃ E, E = fExp b := ⟨_, rfl⟩
  rw [← hFd] at p3
  rw [← hSd] at p1
  rw [← hEd] at p2
  have hF52 : F < 4503599627370496 := by rw [hFd]; unfold fMan; omega
  have hFI : ¬ ((F : Int) = 0) := by omega
  have hEI : E = 2047 := by omega
  subst hEI
  clear hE hF hFd hSd hEd hown
  go_enter Tryd.func36, Tryd.ntmps36
  go_wp2
  go_quiet (fail)
  go_wp2_with (at_builtin; refine wpList_appS rfl _ _ rfl w v v L [78, 97, 78] _ ((unhide hA).quiet (grownBy_drew w nq none)) rfl rfl (by simp; omega) ?_)
  intro v1 w1 hA1
  have hA1' := hide hA1
  clear hA1
  go_wp2
  go_ret
  exact ⟨_, rfl, unhide hA1'⟩

set_option maxRecDepth 100000 in
set_option maxHeartbeats 4000000 in
theorem ftoa_inf (b : Nat) (hb : b < 18446744073709551616) (hE : fExp b = 2047) (hF : fMan b = 0) (v : Value) (L : List UInt8) (w : World) (hown : w.ownsRow 0 5 1 v L.length (L.map byteV)) (hL : L.length ≤ 1048576) :
    Calls Tryd.prog 36 #[v, .float .f64 b, .int .u8 102, .int .i64 2] w (AppP w v (L ++ (if fNeg b then [45, 73, 110, 102] else [43, 73, 110, 102]))) := by
  obtain ⟨p1, p2, p3⟩ := parts b hb
  have hA := hide (AppR.refl hown)
  have h43 := f43_run b
  obtain ⟨F, hFd⟩ : ∃ F, F = fMan b := ⟨_, rfl⟩
  obtain ⟨S, hSd⟩ : ∃ S, S = fNeg b := ⟨_, rfl⟩
  obtain ⟨E, hEd⟩ : ∃ E, E = fExp b := ⟨_, rfl⟩
  rw [← hFd] at p3
  rw [← hSd] at p1
  rw [← hEd] at p2
  have hF52 : F < 4503599627370496 := by rw [hFd]; unfold fMan; omega
  rw [← hSd]
  have hF0 : F = 0 := by omega
  have hEI : E = 2047 := by omega
  subst hEI
  subst hF0
  clear hE hF hFd hSd hEd hown
  cases S
  · go_enter Tryd.func36, Tryd.ntmps36
    go_wp2
    go_quiet (fail)
    go_wp2_with (at_builtin; refine wpList_appS rfl _ _ rfl w v v L [43, 73, 110, 102] _ ((unhide hA).quiet (grownBy_drew w nq none)) rfl rfl (by simp; omega) ?_)
    intro v1 w1 hA1
    have hA1' := hide hA1
    clear hA1
    go_wp2
    go_ret
    exact ⟨_, rfl, unhide hA1'⟩
  · go_enter Tryd.func36, Tryd.ntmps36
    go_wp2
    go_quiet (fail)
    go_wp2_with (at_builtin; refine wpList_appS rfl _ _ rfl w v v L [45, 73, 110, 102] _ ((unhide hA).quiet (grownBy_drew w nq none)) rfl rfl (by simp; omega) ?_)
    intro v1 w1 hA1
    have hA1' := hide hA1
    clear hA1
    go_wp2
    go_ret
    exact ⟨_, rfl, unhide hA1'⟩

set_option maxRecDepth 100000 in
set_option maxHeartbeats 4000000 in
theorem ftoa_zero (b : Nat) (hb : b < 18446744073709551616) (hE : fExp b = 0) (hF : fMan b = 0) (v : Value) (L : List UInt8) (w : World) (hown : w.ownsRow 0 5 1 v L.length (L.map byteV)) (hL : L.length ≤ 1048576) :
    Calls Tryd.prog 36 #[v, .float .f64 b, .int .u8 102, .int .i64 2] w (AppP w v (L ++ efText (fNeg b) [] 0)) := by
  obtain ⟨p1, p2, p3⟩ := parts b hb
  have hA := hide (AppR.refl hown)
  have h43 := f43_run b
  obtain ⟨F, hFd⟩ : ∃ F, F = fMan b := ⟨_, rfl⟩
  obtain ⟨S, hSd⟩ : ∃ S, S = fNeg b := ⟨_, rfl⟩
  obtain ⟨E, hEd⟩ : ∃ E, E = fExp b := ⟨_, rfl⟩
  rw [← hFd] at p3
  rw [← hSd] at p1
  rw [← hEd] at p2
  have hF52 : F < 4503599627370496 := by rw [hFd]; unfold fMan; omega
  rw [← hSd]
  have hF0 : F = 0 := by omega
  have hEI : E = 0 := by omega
  subst hEI
  subst hF0
  have HC : Hid (∀ n, Calls Tryd.prog 46 #[v, .bool S, .slice none 0 0, .int .i64 0, .int .i64 ([] : List UInt8).length, .int .i64 2, .int .u8 102, .bool false] (w.drewN n) (AppP (w.drewN n) v (L ++ efText S [] 0))) := fun n =>
    fmtEFG_any v L (w.drewN n) (((unhide hA).quiet (grownBy_drew w n none)).own) hL S none 0 0 [] 0 (by simp) (by omega) (by omega) (by omega) (by omega) (by omega) (fun wr hwr j c hj => by simp at hj)
  clear hE hF hFd hSd hEd hown
  go_enter Tryd.func36, Tryd.ntmps36
  go_wp2
  go_quiet (fail)
  go_wp2_with fail
  refine (unhide HC nq).mono ?_
  rintro e w' ⟨v', rfl, hA2⟩
  have hA2' := hide (((unhide hA).quiet (grownBy_drew w nq none)).trans hA2)
  clear hA2
  go_wp2
  go_ret
  exact ⟨_, rfl, unhide hA2'⟩

end Go.Proofs.Qxb6614069aDoor
