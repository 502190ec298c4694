/-
  DERIVED. GIVEN WITH THE SEED: THE CARDS: each row of Qxb6612546aFmtRows.lean that lists a variable, with what it lists TIED to the program's text (the seventh form; the later family's looks); each row that meets fmt, with fmt's text TOLD by the authors' own Lean function (tested against real Go, not proved from fmt's source: count such statements apart). THE CARD IS WHAT COUNTS. Prove the row's statement (the work); the ties are given (Qxb6612546aFmtTie.lean); close each card by the builder's one call (the guide's Derived/Test/ToyasCard.lean, 'card_holds'). Laid BY PROGRAM, IN A SANDBOX (cutbox-door.mjs). By AI agents, Wed Nov 11 2026. No macro, syntax, notation, axiom, sorry.
-/
import Derived.Test.Qxb6612546aFmtRows
import GoSem.ClaimSeven
namespace Go.Proofs.Qxb6612546aFmt
namespace Rows

/-- THE TOLD AND TIED CARD OF 'zzlaws_table_b1.FnNextReadsTheRecordsOfTheFile'. -/
def fnNextReadsTheRecordsOfTheFileCard : Claim7 := { stood := { row := fnNextReadsTheRecordsOfTheFileRow, standIns := [], harness := (true, "1cbfcf15f642577446865cd6e7efe974584ce0860dbc8ff6679e39f0cb284245"), looks := true }, told := true, laidByText := true, laidKinds := [.data, .sentinel, .sentinel, .listed, .sentinel, .sentinel, .sentinel, .sentinel, .sentinel, .sentinel, .pinned], laidTests := true, laidLooks := .later, goes := false }
def FnNextReadsTheRecordsOfTheFileToldSaid : Prop := Claim7.holds Tryf.pinned (.plain (OpenSpec.ofChange fnNextReadsTheRecordsOfTheFileSpec)) fnNextReadsTheRecordsOfTheFileCard
/-- ITS FALSE NEIGHBOUR. Refute it at one input. -/
def FnNextReadsTheRecordsOfTheFileToldWrongFalsely : Prop := Claim7.holds Tryf.pinned (.plain (OpenSpec.ofChange fnNextReadsTheRecordsOfTheFileWrong)) fnNextReadsTheRecordsOfTheFileCard

/-- THE TOLD AND TIED CARD OF 'zzlaws_table_b1.FnNextGivesBackTheRowsWritten'. -/
def fnNextGivesBackTheRowsWrittenCard : Claim7 := { stood := { row := fnNextGivesBackTheRowsWrittenRow, standIns := [], harness := (true, "1cbfcf15f642577446865cd6e7efe974584ce0860dbc8ff6679e39f0cb284245"), looks := true }, told := true, laidByText := true, laidKinds := [.data, .sentinel, .sentinel, .listed, .sentinel, .sentinel, .sentinel, .sentinel, .sentinel, .sentinel, .pinned], laidTests := true, laidLooks := .later, goes := false }
def FnNextGivesBackTheRowsWrittenToldSaid : Prop := Claim7.holds Tryf.pinned (.plain (OpenSpec.ofChange fnNextGivesBackTheRowsWrittenSpec)) fnNextGivesBackTheRowsWrittenCard
/-- ITS FALSE NEIGHBOUR. Refute it at one input. -/
def FnNextGivesBackTheRowsWrittenToldWrongFalsely : Prop := Claim7.holds Tryf.pinned (.plain (OpenSpec.ofChange fnNextGivesBackTheRowsWrittenWrong)) fnNextGivesBackTheRowsWrittenCard

/-- THE TOLD AND TIED CARD OF 'zzlaws_table_b1.FnFieldReadsTheNamedColumnOfEachRecord'. -/
def fnFieldReadsTheNamedColumnOfEachRecordCard : Claim7 := { stood := { row := fnFieldReadsTheNamedColumnOfEachRecordRow, standIns := [], harness := (true, "1cbfcf15f642577446865cd6e7efe974584ce0860dbc8ff6679e39f0cb284245"), looks := true }, told := true, laidByText := true, laidKinds := [.data, .sentinel, .sentinel, .listed, .sentinel, .sentinel, .sentinel, .sentinel, .sentinel, .sentinel, .pinned], laidTests := true, laidLooks := .later, goes := false }
def FnFieldReadsTheNamedColumnOfEachRecordToldSaid : Prop := Claim7.holds Tryf.pinned (.plain (OpenSpec.ofChange fnFieldReadsTheNamedColumnOfEachRecordSpec)) fnFieldReadsTheNamedColumnOfEachRecordCard
/-- ITS FALSE NEIGHBOUR. Refute it at one input. -/
def FnFieldReadsTheNamedColumnOfEachRecordToldWrongFalsely : Prop := Claim7.holds Tryf.pinned (.plain (OpenSpec.ofChange fnFieldReadsTheNamedColumnOfEachRecordWrong)) fnFieldReadsTheNamedColumnOfEachRecordCard

/-- THE TOLD AND TIED CARD OF 'zzlaws_table_b1.FnLineIsTheLineWhereTheRecordStarts'. -/
def fnLineIsTheLineWhereTheRecordStartsCard : Claim7 := { stood := { row := fnLineIsTheLineWhereTheRecordStartsRow, standIns := [], harness := (true, "1cbfcf15f642577446865cd6e7efe974584ce0860dbc8ff6679e39f0cb284245"), looks := true }, told := true, laidByText := true, laidKinds := [.data, .sentinel, .sentinel, .listed, .sentinel, .sentinel, .sentinel, .sentinel, .sentinel, .sentinel, .pinned], laidTests := true, laidLooks := .later, goes := false }
def FnLineIsTheLineWhereTheRecordStartsToldSaid : Prop := Claim7.holds Tryf.pinned (.plain (OpenSpec.ofChange fnLineIsTheLineWhereTheRecordStartsSpec)) fnLineIsTheLineWhereTheRecordStartsCard
/-- ITS FALSE NEIGHBOUR. Refute it at one input. -/
def FnLineIsTheLineWhereTheRecordStartsToldWrongFalsely : Prop := Claim7.holds Tryf.pinned (.plain (OpenSpec.ofChange fnLineIsTheLineWhereTheRecordStartsWrong)) fnLineIsTheLineWhereTheRecordStartsCard

/-- THE TOLD AND TIED CARD OF 'zzlaws_table_b1.FnLineCountsTheLinesOfTheRowsAbove'. -/
def fnLineCountsTheLinesOfTheRowsAboveCard : Claim7 := { stood := { row := fnLineCountsTheLinesOfTheRowsAboveRow, standIns := [], harness := (true, "1cbfcf15f642577446865cd6e7efe974584ce0860dbc8ff6679e39f0cb284245"), looks := true }, told := true, laidByText := true, laidKinds := [.data, .sentinel, .sentinel, .listed, .sentinel, .sentinel, .sentinel, .sentinel, .sentinel, .sentinel, .pinned], laidTests := true, laidLooks := .later, goes := false }
def FnLineCountsTheLinesOfTheRowsAboveToldSaid : Prop := Claim7.holds Tryf.pinned (.plain (OpenSpec.ofChange fnLineCountsTheLinesOfTheRowsAboveSpec)) fnLineCountsTheLinesOfTheRowsAboveCard
/-- ITS FALSE NEIGHBOUR. Refute it at one input. -/
def FnLineCountsTheLinesOfTheRowsAboveToldWrongFalsely : Prop := Claim7.holds Tryf.pinned (.plain (OpenSpec.ofChange fnLineCountsTheLinesOfTheRowsAboveWrong)) fnLineCountsTheLinesOfTheRowsAboveCard
end Rows
end Go.Proofs.Qxb6612546aFmt
