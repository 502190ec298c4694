import Derived.Test.Qxb6609067aFmtRows
import Derived.Test.Qxb6609067aFmtShelf
import Derived.Deep.DeepWitnessRowRef
import Derived.Deep.DeepWitnessRef
import Derived.Lib.LaidIn
import Derived.Lib.LaidU8
import Derived.Lib.LaidTab
import Derived.ProofKit
namespace Go.Proofs.Qxb6609067aFmt
open Go.Lib

/-- The witness's world: the settled one with two blocks more (the ranges of unicode.White_Space; its table), the four listed variables holding what is listed. -/
def IsLaid (os : Os) (W : World) : Prop :=
  let N := (World.settled Tryf.prog os).heap.size
  let w0 := World.holding Tryf.prog os ⟨#[.cells (Lib.whiteT.map fun (z : Nat) => Value.int .u16 (z : Int)).toArray (Tryf.lays163_ren.t 198), .cells #[.slice (some ⟨N, 0, none⟩) 7 7, .slice none 0 0, .int .i64 2] (Tryf.lays163_ren.t 196)], #[], []⟩
  let put (h : Array Obj) (g : Nat) (cs : Array Value) : Array Obj := h.modify g fun
    | .cells _ t frozen => .cells cs t frozen
    | o => o
  let h1 := put w0.heap 0 (Lib.asciiSpaceTab.map fun z => Value.int .u8 z).toArray
  let h2 := put h1 3 (Lib.firstTab.map fun z => Value.int .u8 z).toArray
  let h3 := put h2 4 ((List.range 16).flatMap fun i => [Value.int .u8 (Lib.accLo i), Value.int .u8 (Lib.accHi i)]).toArray
  let h4 := put h3 1 #[.pointer (some ⟨N + 1, 0, none⟩)]
  W = { w0 with heap := h4 }

def theLaid : List (String × DataW Unit) := Rows.fnEnvReadsLikeLabelOrOnePairRow.laid

set_option maxRecDepth 1000000 in
theorem laid_met (os : Os) (W : World) (h : IsLaid os W) (args : Array Value) : laidMet Tryf.prog theLaid (W.forCall (fun _ _ => 0) ⟨#[], args, []⟩).memory := by
  unfold IsLaid at h
  subst h
  exact (LaidIn.of_run [4, 1, (World.settled Tryf.prog default).heap.size + 1, (World.settled Tryf.prog default).heap.size, 0, 3] 10 (by kernel_rfl) (by kernel_rfl) (by kernel_rfl) (by kernel_rfl)).met

theorem dAccept : (Rows.laid_unicode_utf8_acceptRanges : DataW Unit) = Lib.acceptData := by kernel_rfl
theorem dWhite : (Rows.laid_unicode_White_Space : DataW Unit) = Lib.whiteData := by kernel_rfl
theorem dAscii : (Rows.laid_strings_asciiSpace : DataW Unit) = Lib.tabData .u8 Lib.asciiSpaceTab := by kernel_rfl
theorem dFirst : Rows.laid_unicode_utf8_first = Lib.firstData := by kernel_rfl
end Go.Proofs.Qxb6609067aFmt
