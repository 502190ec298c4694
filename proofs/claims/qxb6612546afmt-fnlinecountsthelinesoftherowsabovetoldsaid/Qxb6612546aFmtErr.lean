import Derived.Test.Qxb6612546aFmtMap
import Derived.Stop.CallBack
import Derived.Stop.IfaceNil
import GoSem.ClaimData
namespace Go.Proofs
open Go.Extern.Stop Go.Stop Go.Extern

theorem Tryf.call51 (args : Array Value) (w : World) : (callFunc 51 args).run Tryf.prog w = ((FmtStop.errorf #[9, 87] #[33] args).run Tryf.prog w).andThen fun v w' => .ok (.value v) w' :=
  run_callFunc_extern Tryf.func51 (by kernel_rfl) (by kernel_rfl) (by kernel_rfl) (by kernel_rfl) args w
theorem Tryf.guard (name : String) (w : World) : (FmtStop.guard name).run Tryf.prog w = .ok () w := by kernel_rfl
theorem Tryf.fmt0 : FmtStop.printed? ⟨#[117, 110, 107, 110, 111, 119, 110, 32, 99, 111, 108, 117, 109, 110, 32, 37, 113]⟩ 1 = some [(0, 113, false)] := by kernel_rfl
theorem Tryf.fmt0r (w : World) : (FmtDoors.printed ⟨#[117, 110, 107, 110, 111, 119, 110, 32, 99, 111, 108, 117, 109, 110, 32, 37, 113]⟩ 1).run Tryf.prog w = .ok [(0, 113, false)] w := by kernel_rfl
theorem Tryf.fmt0z : FmtStop.printed? ⟨#[117, 110, 107, 110, 111, 119, 110, 32, 99, 111, 108, 117, 109, 110, 32, 37, 113]⟩ 0 = some [] := by kernel_rfl
theorem Tryf.fmt0zr (w : World) : (FmtDoors.printed ⟨#[117, 110, 107, 110, 111, 119, 110, 32, 99, 111, 108, 117, 109, 110, 32, 37, 113]⟩ 0).run Tryf.prog w = .ok [] w := by kernel_rfl
theorem Tryf.fmt1 : FmtStop.printed? ⟨#[99, 111, 108, 117, 109, 110, 32, 37, 113, 32, 110, 97, 109, 101, 100, 32, 116, 119, 105, 99, 101]⟩ 1 = some [(0, 113, false)] := by kernel_rfl
theorem Tryf.fmt1r (w : World) : (FmtDoors.printed ⟨#[99, 111, 108, 117, 109, 110, 32, 37, 113, 32, 110, 97, 109, 101, 100, 32, 116, 119, 105, 99, 101]⟩ 1).run Tryf.prog w = .ok [(0, 113, false)] w := by kernel_rfl
theorem Tryf.fmt1z : FmtStop.printed? ⟨#[99, 111, 108, 117, 109, 110, 32, 37, 113, 32, 110, 97, 109, 101, 100, 32, 116, 119, 105, 99, 101]⟩ 0 = some [] := by kernel_rfl
theorem Tryf.fmt1zr (w : World) : (FmtDoors.printed ⟨#[99, 111, 108, 117, 109, 110, 32, 37, 113, 32, 110, 97, 109, 101, 100, 32, 116, 119, 105, 99, 101]⟩ 0).run Tryf.prog w = .ok [] w := by kernel_rfl
theorem Tryf.fmt2 : FmtStop.printed? ⟨#[109, 105, 115, 115, 105, 110, 103, 32, 99, 111, 108, 117, 109, 110, 32, 37, 113]⟩ 1 = some [(0, 113, false)] := by kernel_rfl
theorem Tryf.fmt2r (w : World) : (FmtDoors.printed ⟨#[109, 105, 115, 115, 105, 110, 103, 32, 99, 111, 108, 117, 109, 110, 32, 37, 113]⟩ 1).run Tryf.prog w = .ok [(0, 113, false)] w := by kernel_rfl
theorem Tryf.fmt2z : FmtStop.printed? ⟨#[109, 105, 115, 115, 105, 110, 103, 32, 99, 111, 108, 117, 109, 110, 32, 37, 113]⟩ 0 = some [] := by kernel_rfl
theorem Tryf.fmt2zr (w : World) : (FmtDoors.printed ⟨#[109, 105, 115, 115, 105, 110, 103, 32, 99, 111, 108, 117, 109, 110, 32, 37, 113]⟩ 0).run Tryf.prog w = .ok [] w := by kernel_rfl
def Tryf.shape9 : List UInt8 := [12, 6, 0, 0, 0, 0, 0, 0, 0, 115, 116, 114, 105, 110, 103]
theorem Tryf.op9_113w (name : String) (x : ByteArray) (w : World) : (FmtStop.operand name true 113 false (.iface 9 (.string x))).run Tryf.prog w = .ok (Tryf.shape9, FmtStop.pack x.data.toList) w := by kernel_rfl
theorem Tryf.op9_113 (name : String) (x : ByteArray) (w : World) : (FmtStop.operand name false 113 false (.iface 9 (.string x))).run Tryf.prog w = .ok (Tryf.shape9, FmtStop.pack x.data.toList) w := by kernel_rfl
theorem Tryf.ptr84 (w : World) : (FmtStop.ptrTo "errors.errorString").run Tryf.prog w = .ok 84 w := by kernel_rfl
theorem Tryf.elem84 (w : World) : (elemOf 84).run Tryf.prog w = .ok 86 w := by kernel_rfl
theorem Tryf.isError84 (w : World) : (FmtDoors.textMethod 84 "Error").run Tryf.prog w = .ok true w := by kernel_rfl
end Go.Proofs
namespace Go.Proofs.Qxb6612546aFmt
open Go.RowKit Go.Extern.Stop Go.Stop Go.Extern
attribute [local go_sem] Tryf.call51 Tryf.guard Tryf.fmt0 Tryf.fmt0r Tryf.fmt0z Tryf.fmt0zr Tryf.fmt1 Tryf.fmt1r Tryf.fmt1z Tryf.fmt1zr Tryf.fmt2 Tryf.fmt2r Tryf.fmt2z Tryf.fmt2zr Tryf.op9_113w Tryf.op9_113 Tryf.ptr84 Tryf.elem84 Tryf.isError84

/-- A new error: not nil; nothing that was there has turned. -/
def ErrPost (w : World) (e : Ending) (w' : World) : Prop := ∃ p, e = .returned (.iface 84 (.pointer (some p))) ∧ Below w.heap.size w w'

set_option maxHeartbeats 1000000 in
theorem errorf0 (F : Interp) (b : Nat) {x0 : ByteArray} (w : World) (hF : F.answers w.tape) (h0 : w.cell? ⟨b, 0, none⟩ = some (.iface 9 (.string x0))) :
    Calls Tryf.prog 47 #[.string ⟨#[117, 110, 107, 110, 111, 119, 110, 32, 99, 111, 108, 117, 109, 110, 32, 37, 113]⟩, .slice (some ⟨b, 0, none⟩) 1 1] w (ErrPost w) := by
  have hF' := answers_open hF
  go_enter Tryf.func47, Tryf.ntmps47
  go_wp2
  go_ret
  exact ⟨_, rfl, ((Below.refl _ _).alloc (Nat.le_refl _) _).drew⟩

set_option maxHeartbeats 1000000 in
theorem errorf1 (F : Interp) (b : Nat) {x0 : ByteArray} (w : World) (hF : F.answers w.tape) (h0 : w.cell? ⟨b, 0, none⟩ = some (.iface 9 (.string x0))) :
    Calls Tryf.prog 47 #[.string ⟨#[99, 111, 108, 117, 109, 110, 32, 37, 113, 32, 110, 97, 109, 101, 100, 32, 116, 119, 105, 99, 101]⟩, .slice (some ⟨b, 0, none⟩) 1 1] w (ErrPost w) := by
  have hF' := answers_open hF
  go_enter Tryf.func47, Tryf.ntmps47
  go_wp2
  go_ret
  exact ⟨_, rfl, ((Below.refl _ _).alloc (Nat.le_refl _) _).drew⟩

set_option maxHeartbeats 1000000 in
theorem errorf2 (F : Interp) (b : Nat) {x0 : ByteArray} (w : World) (hF : F.answers w.tape) (h0 : w.cell? ⟨b, 0, none⟩ = some (.iface 9 (.string x0))) :
    Calls Tryf.prog 47 #[.string ⟨#[109, 105, 115, 115, 105, 110, 103, 32, 99, 111, 108, 117, 109, 110, 32, 37, 113]⟩, .slice (some ⟨b, 0, none⟩) 1 1] w (ErrPost w) := by
  have hF' := answers_open hF
  go_enter Tryf.func47, Tryf.ntmps47
  go_wp2
  go_ret
  exact ⟨_, rfl, ((Below.refl _ _).alloc (Nat.le_refl _) _).drew⟩

set_option maxHeartbeats 1000000 in
theorem errNew (s : ByteArray) (w : World) : Calls Tryf.prog 45 #[.string s] w (ErrPost w) := by
  go_enter Tryf.func45, Tryf.ntmps45
  go_wp2
  go_ret
  exact ⟨_, rfl, (Below.refl _ _).alloc (Nat.le_refl _) _⟩
end Go.Proofs.Qxb6612546aFmt
