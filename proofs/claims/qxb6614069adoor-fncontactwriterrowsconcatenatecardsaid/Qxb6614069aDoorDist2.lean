import Derived.Test.Qxb6614069aDoorFloatS
import Derived.Test.Qxb6614069aDoorDist1
import Derived.Laws.Cover2
import Derived.Deep.Cut
import Derived.Deep.CutRange
namespace Go.Proofs.Qxb6614069aDoor
open Go.RowKit Go.Lib Ieee

theorem order_nan {b c : Nat} {s : Bool} {t : Nat} (h : double.read b = .nan s t) : double.order b c = none := by
  unfold Format.order
  rw [h]
  cases double.read c <;> rfl

set_option maxRecDepth 100000 in
set_option maxHeartbeats 1000000 in
theorem dist_nan (b : Nat) (hb : b < 18446744073709551616) (hE : fExp b = 2047) (hF : fMan b ≠ 0) (w : World) :
    Calls Tryd.prog 21 #[.string ⟨#[78, 97, 78]⟩, .float .f64 b] w fun e w' => e = .returned (.bool true) ∧ ∃ n, w' = w.drewN n := by
  obtain ⟨s, t, hr⟩ := read_nan b hb hE hF
  have o1 : FloatKind.f64.format.order b b = none := order_nan hr
  clear hr hE hF
  go_enter Tryd.func21, Tryd.ntmps21
  go_wp2
  go_ret
  exact ⟨rfl, 0, rfl⟩

/-- The NaN that the machine picks. -/
theorem nan_picked (t : Nat) : ∃ s f, double.read (t % 2 * 2 ^ 63 + 0x7ff0000000000000 + 1 + t / 2 % (2 ^ 52 - 1)) = .nan s f := by
  obtain ⟨x, hx⟩ : ∃ x, x = t % 2 * 2 ^ 63 + 0x7ff0000000000000 + 1 + t / 2 % (2 ^ 52 - 1) := ⟨_, rfl⟩
  rw [← hx]
  obtain ⟨y, hy⟩ : ∃ y, y = t / 2 % (2 ^ 52 - 1) := ⟨_, rfl⟩
  obtain ⟨q, hq⟩ : ∃ q, q = t % 2 := ⟨_, rfl⟩
  rw [← hy, ← hq] at hx
  have hy2 : y < 4503599627370495 := by omega
  have hq2 : q = 0 ∨ q = 1 := by omega
  clear hy hq
  have e1 : fExp x = 2047 := by unfold fExp; rcases hq2 with rfl | rfl <;> omega
  have e2 : fMan x ≠ 0 := by unfold fMan; rcases hq2 with rfl | rfl <;> omega
  exact read_nan x (by omega) e1 e2

theorem run_inf_sub (b : Nat) (s : Bool) (h : double.read b = .infinity s) (w : World) : ∃ r t f, (binOp .sub 23 (.float .f64 b) (.float .f64 b)).run Tryd.prog w = .ok (.float .f64 r) w.drew ∧ double.read r = .nan t f := by
  have h1 : FloatKind.f64.format.sub b b = none := by
    show double.sub b b = none
    unfold Format.sub
    rw [h]
    cases s <;> rfl
  obtain ⟨t, f, h2⟩ := nan_picked (w.tape w.drawn (.nanBits .f64 b b))
  refine ⟨_, t, f, ?_, h2⟩
  simp [binOp, Op.floatArith, h1, Question.forced, Question.cut]

theorem inf_zero (b : Nat) (s : Bool) (h : double.read b = .infinity s) : double.order b b = some .eq ∧ double.order b 0 = some (if s then .lt else .gt) := by
  have h0 : double.read 0 = .number false 0 (-1074) := by decide
  unfold Format.order
  rw [h, h0]
  cases s <;> decide

set_option maxRecDepth 100000 in
set_option maxHeartbeats 1000000 in
theorem dist_inf (b : Nat) (hb : b < 18446744073709551616) (hE : fExp b = 2047) (hF : fMan b = 0) (w : World) :
    Calls Tryd.prog 21 #[.string (if fNeg b then ⟨#[45, 73, 110, 102]⟩ else ⟨#[43, 73, 110, 102]⟩), .float .f64 b] w fun e w' => e = .returned (.bool true) ∧ ∃ n, w' = w.drewN n := by
  have hr := read_inf b hb hE hF
  obtain ⟨k1, k2⟩ := inf_zero b _ hr
  have o1 : FloatKind.f64.format.order b b = some .eq := k1
  have o2 : FloatKind.f64.format.order b 0 = some (if fNeg b then .lt else .gt) := k2
  obtain ⟨r1, t1, f1, hr1, hn1⟩ := run_inf_sub b _ hr w
  obtain ⟨r2, t2, f2, hr2, hn2⟩ := run_inf_sub b _ hr w.drew
  have o3 : FloatKind.f64.format.order r1 r2 = none := order_nan hn1
  clear hr hE hF k1 k2 hn1 hn2
  cases hS : fNeg b
  · rw [hS] at o2
    go_enter Tryd.func21, Tryd.ntmps21
    go_wp2
    go_ret
    exact ⟨rfl, 2, rfl⟩
  · rw [hS] at o2
    go_enter Tryd.func21, Tryd.ntmps21
    go_wp2
    go_ret
    exact ⟨rfl, 2, rfl⟩

end Go.Proofs.Qxb6614069aDoor
