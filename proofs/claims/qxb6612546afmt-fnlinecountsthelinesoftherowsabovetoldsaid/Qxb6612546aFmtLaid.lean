import Derived.Test.Qxb6612546aFmtRows
import Derived.Test.Qxb6612546aFmtShelf2
import Derived.Deep.DeepWitnessRowRef
import Derived.Deep.DeepWitnessRef
import Derived.Lib.LaidIn
import Derived.Lib.LaidU8
import Derived.Lib.LaidTab
import Derived.ProofKit
namespace Go.Proofs.Qxb6612546aFmt
open Go.Lib

def bs (l : List UInt8) : Value := .string ⟨l.toArray⟩

/-- The witness's world: the settled one with ten blocks more, the listed variables holding what is listed. -/
def IsLaid (os : Os) (W : World) : Prop :=
  let N := (World.settled Tryf.prog os).heap.size
  let w0 := World.holding Tryf.prog os ⟨#[.cells (([9, 13, 1, 32, 133, 101, 160, 5760, 5600, 8192, 8202, 1, 8232, 8233, 1, 8239, 8287, 48, 12288, 12288, 1] : List Nat).map fun (z : Nat) => Value.int .u16 (z : Int)).toArray 124,
    .cells #[.slice (some ⟨N, 0, none⟩) 7 7, .slice none 0 0, .int .i64 2] 121,
    .cells #[bs [69, 79, 70]] 86,
    .cells #[bs [109, 117, 108, 116, 105, 112, 108, 101, 32, 82, 101, 97, 100, 32, 99, 97, 108, 108, 115, 32, 114, 101, 116, 117, 114, 110, 32, 110, 111, 32, 100, 97, 116, 97, 32, 111, 114, 32, 101, 114, 114, 111, 114]] 86,
    .cells #[bs [98, 117, 102, 105, 111, 58, 32, 98, 117, 102, 102, 101, 114, 32, 102, 117, 108, 108]] 86,
    .cells #[bs [98, 117, 102, 105, 111, 58, 32, 114, 101, 97, 100, 101, 114, 32, 114, 101, 116, 117, 114, 110, 101, 100, 32, 110, 101, 103, 97, 116, 105, 118, 101, 32, 99, 111, 117, 110, 116, 32, 102, 114, 111, 109, 32, 82, 101, 97, 100]] 86,
    .cells #[bs [98, 97, 114, 101, 32, 34, 32, 105, 110, 32, 110, 111, 110, 45, 113, 117, 111, 116, 101, 100, 45, 102, 105, 101, 108, 100]] 86,
    .cells #[bs [101, 120, 116, 114, 97, 110, 101, 111, 117, 115, 32, 111, 114, 32, 109, 105, 115, 115, 105, 110, 103, 32, 34, 32, 105, 110, 32, 113, 117, 111, 116, 101, 100, 45, 102, 105, 101, 108, 100]] 86,
    .cells #[bs [119, 114, 111, 110, 103, 32, 110, 117, 109, 98, 101, 114, 32, 111, 102, 32, 102, 105, 101, 108, 100, 115]] 86,
    .cells #[bs [99, 115, 118, 58, 32, 105, 110, 118, 97, 108, 105, 100, 32, 102, 105, 101, 108, 100, 32, 111, 114, 32, 99, 111, 109, 109, 101, 110, 116, 32, 100, 101, 108, 105, 109, 105, 116, 101, 114]] 86], #[], []⟩
  let put (h : Array Obj) (g : Nat) (cs : Array Value) : Array Obj := h.modify g fun
    | .cells _ t frozen => .cells cs t frozen
    | o => o
  let err (k : Nat) : Array Value := #[.iface 84 (.pointer (some ⟨N + k, 0, none⟩))]
  let h1 := put w0.heap 10 (Lib.firstTab.map fun z => Value.int .u8 z).toArray
  let h2 := put h1 11 ((List.range 16).flatMap fun i => [Value.int .u8 (Lib.accLo i), Value.int .u8 (Lib.accHi i)]).toArray
  let h3 := put h2 6 #[.pointer (some ⟨N + 1, 0, none⟩)]
  let h4 := put (put (put (put h3 0 (err 2)) 9 (err 3)) 5 (err 4)) 8 (err 5)
  let h5 := put (put (put (put h4 2 (err 6)) 3 (err 7)) 4 (err 8)) 1 (err 9)
  W = { w0 with heap := h5 }

def theLaid : List (String × DataW Unit) := Rows.fnLineIsTheLineWhereTheRecordStartsRow.laid

set_option maxRecDepth 1000000 in
theorem laid_met (os : Os) (W : World) (h : IsLaid os W) (args : Array Value) : laidMet Tryf.prog theLaid (W.forCall (fun _ _ => 0) ⟨#[], args, []⟩).memory := by
  unfold IsLaid at h
  subst h
  exact (LaidIn.of_run [11, 0, (World.settled Tryf.prog default).heap.size + 2, 9, (World.settled Tryf.prog default).heap.size + 3, 6, (World.settled Tryf.prog default).heap.size + 1, (World.settled Tryf.prog default).heap.size, 5, (World.settled Tryf.prog default).heap.size + 4, 8, (World.settled Tryf.prog default).heap.size + 5, 2, (World.settled Tryf.prog default).heap.size + 6, 3, (World.settled Tryf.prog default).heap.size + 7, 4, (World.settled Tryf.prog default).heap.size + 8, 1, (World.settled Tryf.prog default).heap.size + 9, 10] 10 (by kernel_rfl) (by kernel_rfl) (by kernel_rfl) (by kernel_rfl)).met

theorem dAccept : (Rows.laid_unicode_utf8_acceptRanges : DataW Unit) = Lib.acceptData := by kernel_rfl
theorem dFirst : Rows.laid_unicode_utf8_first = Lib.firstData := by kernel_rfl
end Go.Proofs.Qxb6612546aFmt
