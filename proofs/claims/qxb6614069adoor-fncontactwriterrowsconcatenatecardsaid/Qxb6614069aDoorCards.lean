/-
  DERIVED. GIVEN WITH THE SEED: THE CARDS: each row of Qxb6614069aDoorRows.lean that lists a variable, with what it lists TIED to the program's text (the seventh form; the later family's looks); each row that meets fmt, with fmt's text TOLD by the authors' own Lean function (tested against real Go, not proved from fmt's source: count such statements apart). THE CARD IS WHAT COUNTS. Prove the row's statement (the work); the ties are given (Qxb6614069aDoorTie.lean); close each card by the builder's one call (the guide's Derived/Test/ToyasCard.lean, 'card_holds'). Laid BY PROGRAM, IN A SANDBOX (cutbox-door.mjs). By AI agents, Wed Nov 11 2026. No macro, syntax, notation, axiom, sorry.
-/
import Derived.Test.Qxb6614069aDoorRows
import GoSem.ClaimSeven
namespace Go.Proofs.Qxb6614069aDoor
namespace Rows

/-- THE TIED CARD OF 'zzlaws_internal_trace_b1.FnContactWriterRowMatchesSpec'. -/
def fnContactWriterRowMatchesSpecCard : Claim7 := { stood := { row := fnContactWriterRowMatchesSpecRow, standIns := [], harness := (true, "3a29b2e5fbe602f3bdc6e9601198752e23af6d4b97f4f50fbeb3564152535c4f"), looks := true }, kinds := [], alts := [], laidByText := true, laidKinds := [.data, .data, .data, .data, .sentinel, .pinned, .pinned], laidTests := true, laidLooks := .later }
def FnContactWriterRowMatchesSpecCardSaid : Prop := Claim7.holds Tryd.pinned (.plain (OpenSpec.ofChange fnContactWriterRowMatchesSpecSpec)) fnContactWriterRowMatchesSpecCard

/-- THE TIED CARD OF 'zzlaws_internal_trace_b1.FnContactWriterRowsConcatenate'. -/
def fnContactWriterRowsConcatenateCard : Claim7 := { stood := { row := fnContactWriterRowsConcatenateRow, standIns := [], harness := (true, "3a29b2e5fbe602f3bdc6e9601198752e23af6d4b97f4f50fbeb3564152535c4f"), looks := true }, kinds := [], alts := [], laidByText := true, laidKinds := [.data, .data, .data, .data, .sentinel, .pinned, .pinned], laidTests := true, laidLooks := .later }
def FnContactWriterRowsConcatenateCardSaid : Prop := Claim7.holds Tryd.pinned (.plain (OpenSpec.ofChange fnContactWriterRowsConcatenateSpec)) fnContactWriterRowsConcatenateCard
end Rows
end Go.Proofs.Qxb6614069aDoor
