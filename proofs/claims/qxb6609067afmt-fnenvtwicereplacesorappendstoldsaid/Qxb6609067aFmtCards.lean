/-
  DERIVED. GIVEN WITH THE SEED: THE CARDS: each row of Qxb6609067aFmtRows.lean that lists a variable, with what it lists TIED to the program's text (the seventh form; the later family's looks); each row that meets fmt, with fmt's text TOLD by the authors' own Lean function (tested against real Go, not proved from fmt's source: count such statements apart). THE CARD IS WHAT COUNTS. Prove the row's statement (the work); the ties are given (Qxb6609067aFmtTie.lean); close each card by the builder's one call (the guide's Derived/Test/ToyasCard.lean, 'card_holds'). Laid BY PROGRAM, IN A SANDBOX (cutbox-door.mjs). By AI agents, Wed Nov 11 2026. No macro, syntax, notation, axiom, sorry.
-/
import Derived.Test.Qxb6609067aFmtRows
import GoSem.ClaimSeven
namespace Go.Proofs.Qxb6609067aFmt
namespace Rows

/-- THE TOLD AND TIED CARD OF 'zzlaws_internal_dockerfile_b1.FnEnvReadsLikeLabelOrOnePair'. -/
def fnEnvReadsLikeLabelOrOnePairCard : Claim7 := { stood := { row := fnEnvReadsLikeLabelOrOnePairRow, standIns := [], harness := (true, "98536620d64f094c4418eca02f3cf7dc1929f289e0c2519dd88ae9995665976d"), looks := false }, told := true, laidByText := true, laidKinds := [.data, .listed, .data, .pinned], laidTests := true, laidLooks := .later, goes := false }
def FnEnvReadsLikeLabelOrOnePairToldSaid : Prop := Claim7.holds Tryf.pinned (.plain (OpenSpec.ofChange fnEnvReadsLikeLabelOrOnePairSpec)) fnEnvReadsLikeLabelOrOnePairCard
/-- ITS FALSE NEIGHBOUR. Refute it at one input. -/
def FnEnvReadsLikeLabelOrOnePairToldWrongFalsely : Prop := Claim7.holds Tryf.pinned (.plain (OpenSpec.ofChange fnEnvReadsLikeLabelOrOnePairWrong)) fnEnvReadsLikeLabelOrOnePairCard

/-- THE TOLD AND TIED CARD OF 'zzlaws_internal_dockerfile_b1.FnEnvTwiceReplacesOrAppends'. -/
def fnEnvTwiceReplacesOrAppendsCard : Claim7 := { stood := { row := fnEnvTwiceReplacesOrAppendsRow, standIns := [], harness := (true, "98536620d64f094c4418eca02f3cf7dc1929f289e0c2519dd88ae9995665976d"), looks := false }, told := true, laidByText := true, laidKinds := [.data, .listed, .data, .pinned], laidTests := true, laidLooks := .later, goes := false }
def FnEnvTwiceReplacesOrAppendsToldSaid : Prop := Claim7.holds Tryf.pinned (.plain (OpenSpec.ofChange fnEnvTwiceReplacesOrAppendsSpec)) fnEnvTwiceReplacesOrAppendsCard
/-- ITS FALSE NEIGHBOUR. Refute it at one input. -/
def FnEnvTwiceReplacesOrAppendsToldWrongFalsely : Prop := Claim7.holds Tryf.pinned (.plain (OpenSpec.ofChange fnEnvTwiceReplacesOrAppendsWrong)) fnEnvTwiceReplacesOrAppendsCard

/-- THE TOLD CARD OF 'zzlaws_internal_dockerfile_b1.FnLabelAppendsPairsAsWritten'. -/
def fnLabelAppendsPairsAsWrittenCard : Claim7 := { stood := { row := fnLabelAppendsPairsAsWrittenRow, standIns := [], harness := (true, "98536620d64f094c4418eca02f3cf7dc1929f289e0c2519dd88ae9995665976d"), looks := false }, told := true, goes := false }
def FnLabelAppendsPairsAsWrittenToldSaid : Prop := Claim7.holds Tryf.pinned (.plain (OpenSpec.ofChange fnLabelAppendsPairsAsWrittenSpec)) fnLabelAppendsPairsAsWrittenCard
/-- ITS FALSE NEIGHBOUR. Refute it at one input. -/
def FnLabelAppendsPairsAsWrittenToldWrongFalsely : Prop := Claim7.holds Tryf.pinned (.plain (OpenSpec.ofChange fnLabelAppendsPairsAsWrittenWrong)) fnLabelAppendsPairsAsWrittenCard

/-- THE TOLD CARD OF 'zzlaws_internal_dockerfile_b1.FnWorkdirAndLabelCommute'. -/
def fnWorkdirAndLabelCommuteCard : Claim7 := { stood := { row := fnWorkdirAndLabelCommuteRow, standIns := [], harness := (true, "98536620d64f094c4418eca02f3cf7dc1929f289e0c2519dd88ae9995665976d"), looks := false }, told := true, goes := false }
def FnWorkdirAndLabelCommuteToldSaid : Prop := Claim7.holds Tryf.pinned (.plain (OpenSpec.ofChange fnWorkdirAndLabelCommuteSpec)) fnWorkdirAndLabelCommuteCard
/-- ITS FALSE NEIGHBOUR. Refute it at one input. -/
def FnWorkdirAndLabelCommuteToldWrongFalsely : Prop := Claim7.holds Tryf.pinned (.plain (OpenSpec.ofChange fnWorkdirAndLabelCommuteWrong)) fnWorkdirAndLabelCommuteCard
end Rows
end Go.Proofs.Qxb6609067aFmt
