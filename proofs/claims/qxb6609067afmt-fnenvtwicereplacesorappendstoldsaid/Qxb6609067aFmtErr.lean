import Derived.Test.Qxb6609067aFmtBase
import Derived.Stop.CallBack
import Derived.Stop.IfaceNil
import GoSem.ClaimData
namespace Go.Proofs
open Go.Extern.Stop Go.Stop Go.Extern

theorem Tryf.call47 (args : Array Value) (w : World) : (callFunc 47 args).run Tryf.prog w = ((FmtStop.errorf #[9, 64] #[32] args).run Tryf.prog w).andThen fun v w' => .ok (.value v) w' :=
  run_callFunc_extern Tryf.func47 (by kernel_rfl) (by kernel_rfl) (by kernel_rfl) (by kernel_rfl) args w
theorem Tryf.guard (name : String) (w : World) : (FmtStop.guard name).run Tryf.prog w = .ok () w := by kernel_rfl
theorem Tryf.fmt0 : FmtStop.printed? ⟨#[37, 115, 32, 105, 115, 32, 110, 111, 116, 32, 99, 108, 111, 115, 101, 100, 32, 105, 110, 32, 37, 115]⟩ 2 = some [(0, 115, false), (1, 115, false)] := by kernel_rfl
theorem Tryf.fmt0r (w : World) : (FmtDoors.printed ⟨#[37, 115, 32, 105, 115, 32, 110, 111, 116, 32, 99, 108, 111, 115, 101, 100, 32, 105, 110, 32, 37, 115]⟩ 2).run Tryf.prog w = .ok [(0, 115, false), (1, 115, false)] w := by kernel_rfl
theorem Tryf.fmt0z : FmtStop.printed? ⟨#[37, 115, 32, 105, 115, 32, 110, 111, 116, 32, 99, 108, 111, 115, 101, 100, 32, 105, 110, 32, 37, 115]⟩ 0 = some [] := by kernel_rfl
theorem Tryf.fmt0zr (w : World) : (FmtDoors.printed ⟨#[37, 115, 32, 105, 115, 32, 110, 111, 116, 32, 99, 108, 111, 115, 101, 100, 32, 105, 110, 32, 37, 115]⟩ 0).run Tryf.prog w = .ok [] w := by kernel_rfl
theorem Tryf.fmt1 : FmtStop.printed? ⟨#[37, 115, 32, 104, 97, 115, 32, 110, 111, 32, 118, 97, 108, 117, 101]⟩ 1 = some [(0, 115, false)] := by kernel_rfl
theorem Tryf.fmt1r (w : World) : (FmtDoors.printed ⟨#[37, 115, 32, 104, 97, 115, 32, 110, 111, 32, 118, 97, 108, 117, 101]⟩ 1).run Tryf.prog w = .ok [(0, 115, false)] w := by kernel_rfl
theorem Tryf.fmt1z : FmtStop.printed? ⟨#[37, 115, 32, 104, 97, 115, 32, 110, 111, 32, 118, 97, 108, 117, 101]⟩ 0 = some [] := by kernel_rfl
theorem Tryf.fmt1zr (w : World) : (FmtDoors.printed ⟨#[37, 115, 32, 104, 97, 115, 32, 110, 111, 32, 118, 97, 108, 117, 101]⟩ 0).run Tryf.prog w = .ok [] w := by kernel_rfl
theorem Tryf.fmt2 : FmtStop.printed? ⟨#[37, 115, 32, 105, 115, 32, 110, 111, 116, 32, 78, 65, 77, 69, 61, 86, 65, 76, 85, 69]⟩ 1 = some [(0, 115, false)] := by kernel_rfl
theorem Tryf.fmt2r (w : World) : (FmtDoors.printed ⟨#[37, 115, 32, 105, 115, 32, 110, 111, 116, 32, 78, 65, 77, 69, 61, 86, 65, 76, 85, 69]⟩ 1).run Tryf.prog w = .ok [(0, 115, false)] w := by kernel_rfl
theorem Tryf.fmt2z : FmtStop.printed? ⟨#[37, 115, 32, 105, 115, 32, 110, 111, 116, 32, 78, 65, 77, 69, 61, 86, 65, 76, 85, 69]⟩ 0 = some [] := by kernel_rfl
theorem Tryf.fmt2zr (w : World) : (FmtDoors.printed ⟨#[37, 115, 32, 105, 115, 32, 110, 111, 116, 32, 78, 65, 77, 69, 61, 86, 65, 76, 85, 69]⟩ 0).run Tryf.prog w = .ok [] w := by kernel_rfl
def Tryf.shape9 : List UInt8 := [12, 6, 0, 0, 0, 0, 0, 0, 0, 115, 116, 114, 105, 110, 103]
theorem Tryf.op9_115w (name : String) (x : ByteArray) (w : World) : (FmtStop.operand name true 115 false (.iface 9 (.string x))).run Tryf.prog w = .ok (Tryf.shape9, FmtStop.pack x.data.toList) w := by kernel_rfl
theorem Tryf.op9_115 (name : String) (x : ByteArray) (w : World) : (FmtStop.operand name false 115 false (.iface 9 (.string x))).run Tryf.prog w = .ok (Tryf.shape9, FmtStop.pack x.data.toList) w := by kernel_rfl
theorem Tryf.ptr85 (w : World) : (FmtStop.ptrTo "errors.errorString").run Tryf.prog w = .ok 85 w := by kernel_rfl
theorem Tryf.elem85 (w : World) : (elemOf 85).run Tryf.prog w = .ok 87 w := by kernel_rfl
theorem Tryf.isError85 (w : World) : (FmtDoors.textMethod 85 "Error").run Tryf.prog w = .ok true w := by kernel_rfl
end Go.Proofs
namespace Go.Proofs.Qxb6609067aFmt
open Go.RowKit Go.Extern.Stop Go.Stop Go.Extern
attribute [local go_sem] Tryf.call47 Tryf.guard Tryf.fmt0 Tryf.fmt0r Tryf.fmt0z Tryf.fmt0zr Tryf.fmt1 Tryf.fmt1r Tryf.fmt1z Tryf.fmt1zr Tryf.fmt2 Tryf.fmt2r Tryf.fmt2z Tryf.fmt2zr Tryf.op9_115w Tryf.op9_115 Tryf.ptr85 Tryf.elem85 Tryf.isError85

theorem two_new0 (w : World) (a b : Value) (t : TypeId) : (w.alloc (.cells #[a, b] t)).cell? ⟨w.heap.size, 0, none⟩ = some a := by rw [cell_of_row _ _ _ _ _ _ (heap_alloc_new w _)]; rfl
theorem two_new1 (w : World) (a b : Value) (t : TypeId) : (w.alloc (.cells #[a, b] t)).cell? ⟨w.heap.size, 1, none⟩ = some b := by rw [cell_of_row _ _ _ _ _ _ (heap_alloc_new w _)]; rfl
theorem one_new0 (w : World) (a : Value) (t : TypeId) : (w.alloc (.cells #[a] t)).cell? ⟨w.heap.size, 0, none⟩ = some a := by rw [cell_of_row _ _ _ _ _ _ (heap_alloc_new w _)]; rfl

/-- A new error: not nil; nothing that was there has turned. -/
def ErrPost (w : World) (e : Ending) (w' : World) : Prop := ∃ p, e = .returned (.iface 85 (.pointer (some p))) ∧ Below w.heap.size w w'

set_option maxHeartbeats 1000000 in
theorem errorf0 (F : Interp) (b : Nat) {x0 x1 : ByteArray} (w : World) (hF : F.answers w.tape) (h0 : w.cell? ⟨b, 0, none⟩ = some (.iface 9 (.string x0))) (h1 : w.cell? ⟨b, 1, none⟩ = some (.iface 9 (.string x1))) :
    Calls Tryf.prog 39 #[.string ⟨#[37, 115, 32, 105, 115, 32, 110, 111, 116, 32, 99, 108, 111, 115, 101, 100, 32, 105, 110, 32, 37, 115]⟩, .slice (some ⟨b, 0, none⟩) 2 2] w (ErrPost w) := by
  have hF' := answers_open hF
  go_enter Tryf.func39, Tryf.ntmps39
  go_wp2
  go_ret
  exact ⟨_, rfl, ((Below.refl _ _).alloc (Nat.le_refl _) _).drew⟩

set_option maxHeartbeats 1000000 in
theorem errorf1 (F : Interp) (b : Nat) {x0 : ByteArray} (w : World) (hF : F.answers w.tape) (h0 : w.cell? ⟨b, 0, none⟩ = some (.iface 9 (.string x0))) :
    Calls Tryf.prog 39 #[.string ⟨#[37, 115, 32, 104, 97, 115, 32, 110, 111, 32, 118, 97, 108, 117, 101]⟩, .slice (some ⟨b, 0, none⟩) 1 1] w (ErrPost w) := by
  have hF' := answers_open hF
  go_enter Tryf.func39, Tryf.ntmps39
  go_wp2
  go_ret
  exact ⟨_, rfl, ((Below.refl _ _).alloc (Nat.le_refl _) _).drew⟩

set_option maxHeartbeats 1000000 in
theorem errorf2 (F : Interp) (b : Nat) {x0 : ByteArray} (w : World) (hF : F.answers w.tape) (h0 : w.cell? ⟨b, 0, none⟩ = some (.iface 9 (.string x0))) :
    Calls Tryf.prog 39 #[.string ⟨#[37, 115, 32, 105, 115, 32, 110, 111, 116, 32, 78, 65, 77, 69, 61, 86, 65, 76, 85, 69]⟩, .slice (some ⟨b, 0, none⟩) 1 1] w (ErrPost w) := by
  have hF' := answers_open hF
  go_enter Tryf.func39, Tryf.ntmps39
  go_wp2
  go_ret
  exact ⟨_, rfl, ((Below.refl _ _).alloc (Nat.le_refl _) _).drew⟩
end Go.Proofs.Qxb6609067aFmt
