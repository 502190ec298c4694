/-
  NARROWER THAN 'FOR EVERY INPUT', by the rows' own cells (each row's printed sentence says how): FnEnvReadsLikeLabelOrOnePair: laid · FnEnvTwiceReplacesOrAppends: laid.
  DERIVED. THE GIVEN ROWS OF THIS SEAT. 4 by the template 'for every input the law returns true; each argument reads behind the call as it read before'; 0 by the template 'total and deterministic' (their statements: Qxb6609067aFmtTotals.lean).
  GIVEN WITH THE SEED: the statements are not yours to turn. If you find one false, say at which input.
  Laid BY PROGRAM, IN A SANDBOX (cutbox-rows.mjs): the forced cells as the released guide's own fill.sh prints them over the translation 0a60f2e63cf389cf… (all of the seat's roots in one cut). By AI agents, Wed Nov 11 2026. No macro, syntax, notation, axiom, sorry.
-/
import Derived.Test.Qxb6609067aFmtChecked
import GoSem.PinnedTables
import GoSem.Claim
import GoSem.ClaimJoined
import GoSem.ClaimMapViews
import Derived.JoinedTies
import Derived.KernelRfl
namespace Go.Proofs.Qxb6609067aFmt
/- THE CELL 'sum', in the pinned program and in every row, IS THE sha256 OF THE DUMP (.gsa) THAT Qxb6609067aFmtProg.lean LOADS. Nothing in Lean hashes anything: it is a label: what it is worth is what the hold of that sum in a sandbox is worth. -/
noncomputable def Tryf.pinned : Pinned := { name := "qxb6609067afmt", sum := "0a60f2e63cf389cfb45463cd26aa686d035e21aae06c5673988f6b28512e9872", checked := Tryf.checked }
namespace Rows
def none {H : Type} : Left H := { results := [], args := [] }

/- WHAT THE LISTED PACKAGE-LEVEL VARIABLES READ AS WHEN THE CALL BEGINS. Each datum BY PROGRAM (the guide's laid-datum.mjs) off the statement by which the dump's own 'gosem.cut.vars' lays the variable. In a bare row this is a premise. The card (Qxb6609067aFmtCards.lean) ties it to the program's text. -/
def laid_unicode_utf8_acceptRanges {H : Type} : DataW H := .agg [.agg [.lit (.int .u8 128), .lit (.int .u8 191)], .agg [.lit (.int .u8 160), .lit (.int .u8 191)], .agg [.lit (.int .u8 128), .lit (.int .u8 159)], .agg [.lit (.int .u8 144), .lit (.int .u8 191)], .agg [.lit (.int .u8 128), .lit (.int .u8 143)], .agg [.lit (.int .u8 0), .lit (.int .u8 0)], .agg [.lit (.int .u8 0), .lit (.int .u8 0)], .agg [.lit (.int .u8 0), .lit (.int .u8 0)], .agg [.lit (.int .u8 0), .lit (.int .u8 0)], .agg [.lit (.int .u8 0), .lit (.int .u8 0)], .agg [.lit (.int .u8 0), .lit (.int .u8 0)], .agg [.lit (.int .u8 0), .lit (.int .u8 0)], .agg [.lit (.int .u8 0), .lit (.int .u8 0)], .agg [.lit (.int .u8 0), .lit (.int .u8 0)], .agg [.lit (.int .u8 0), .lit (.int .u8 0)], .agg [.lit (.int .u8 0), .lit (.int .u8 0)]]
def laid_unicode_White_Space {H : Type} : DataW H := .ptr (.agg [.slice [.agg [.lit (.int .u16 9), .lit (.int .u16 13), .lit (.int .u16 1)], .agg [.lit (.int .u16 32), .lit (.int .u16 133), .lit (.int .u16 101)], .agg [.lit (.int .u16 160), .lit (.int .u16 5760), .lit (.int .u16 5600)], .agg [.lit (.int .u16 8192), .lit (.int .u16 8202), .lit (.int .u16 1)], .agg [.lit (.int .u16 8232), .lit (.int .u16 8233), .lit (.int .u16 1)], .agg [.lit (.int .u16 8239), .lit (.int .u16 8287), .lit (.int .u16 48)], .agg [.lit (.int .u16 12288), .lit (.int .u16 12288), .lit (.int .u16 1)]] [], .nil, .lit (.int .i64 2)])
def laid_strings_asciiSpace {H : Type} : DataW H := .agg [.lit (.int .u8 0), .lit (.int .u8 0), .lit (.int .u8 0), .lit (.int .u8 0), .lit (.int .u8 0), .lit (.int .u8 0), .lit (.int .u8 0), .lit (.int .u8 0), .lit (.int .u8 0), .lit (.int .u8 1), .lit (.int .u8 1), .lit (.int .u8 1), .lit (.int .u8 1), .lit (.int .u8 1), .lit (.int .u8 0), .lit (.int .u8 0), .lit (.int .u8 0), .lit (.int .u8 0), .lit (.int .u8 0), .lit (.int .u8 0), .lit (.int .u8 0), .lit (.int .u8 0), .lit (.int .u8 0), .lit (.int .u8 0), .lit (.int .u8 0), .lit (.int .u8 0), .lit (.int .u8 0), .lit (.int .u8 0), .lit (.int .u8 0), .lit (.int .u8 0), .lit (.int .u8 0), .lit (.int .u8 0), .lit (.int .u8 1), .lit (.int .u8 0), .lit (.int .u8 0), .lit (.int .u8 0), .lit (.int .u8 0), .lit (.int .u8 0), .lit (.int .u8 0), .lit (.int .u8 0), .lit (.int .u8 0), .lit (.int .u8 0), .lit (.int .u8 0), .lit (.int .u8 0), .lit (.int .u8 0), .lit (.int .u8 0), .lit (.int .u8 0), .lit (.int .u8 0), .lit (.int .u8 0), .lit (.int .u8 0), .lit (.int .u8 0), .lit (.int .u8 0), .lit (.int .u8 0), .lit (.int .u8 0), .lit (.int .u8 0), .lit (.int .u8 0), .lit (.int .u8 0), .lit (.int .u8 0), .lit (.int .u8 0), .lit (.int .u8 0), .lit (.int .u8 0), .lit (.int .u8 0), .lit (.int .u8 0), .lit (.int .u8 0), .lit (.int .u8 0), .lit (.int .u8 0), .lit (.int .u8 0), .lit (.int .u8 0), .lit (.int .u8 0), .lit (.int .u8 0), .lit (.int .u8 0), .lit (.int .u8 0), .lit (.int .u8 0), .lit (.int .u8 0), .lit (.int .u8 0), .lit (.int .u8 0), .lit (.int .u8 0), .lit (.int .u8 0), .lit (.int .u8 0), .lit (.int .u8 0), .lit (.int .u8 0), .lit (.int .u8 0), .lit (.int .u8 0), .lit (.int .u8 0), .lit (.int .u8 0), .lit (.int .u8 0), .lit (.int .u8 0), .lit (.int .u8 0), .lit (.int .u8 0), .lit (.int .u8 0), .lit (.int .u8 0), .lit (.int .u8 0), .lit (.int .u8 0), .lit (.int .u8 0), .lit (.int .u8 0), .lit (.int .u8 0), .lit (.int .u8 0), .lit (.int .u8 0), .lit (.int .u8 0), .lit (.int .u8 0), .lit (.int .u8 0), .lit (.int .u8 0), .lit (.int .u8 0), .lit (.int .u8 0), .lit (.int .u8 0), .lit (.int .u8 0), .lit (.int .u8 0), .lit (.int .u8 0), .lit (.int .u8 0), .lit (.int .u8 0), .lit (.int .u8 0), .lit (.int .u8 0), .lit (.int .u8 0), .lit (.int .u8 0), .lit (.int .u8 0), .lit (.int .u8 0), .lit (.int .u8 0), .lit (.int .u8 0), .lit (.int .u8 0), .lit (.int .u8 0), .lit (.int .u8 0), .lit (.int .u8 0), .lit (.int .u8 0), .lit (.int .u8 0), .lit (.int .u8 0), .lit (.int .u8 0), .lit (.int .u8 0), .lit (.int .u8 0), .lit (.int .u8 0), .lit (.int .u8 0), .lit (.int .u8 0), .lit (.int .u8 0), .lit (.int .u8 0), .lit (.int .u8 0), .lit (.int .u8 0), .lit (.int .u8 0), .lit (.int .u8 0), .lit (.int .u8 0), .lit (.int .u8 0), .lit (.int .u8 0), .lit (.int .u8 0), .lit (.int .u8 0), .lit (.int .u8 0), .lit (.int .u8 0), .lit (.int .u8 0), .lit (.int .u8 0), .lit (.int .u8 0), .lit (.int .u8 0), .lit (.int .u8 0), .lit (.int .u8 0), .lit (.int .u8 0), .lit (.int .u8 0), .lit (.int .u8 0), .lit (.int .u8 0), .lit (.int .u8 0), .lit (.int .u8 0), .lit (.int .u8 0), .lit (.int .u8 0), .lit (.int .u8 0), .lit (.int .u8 0), .lit (.int .u8 0), .lit (.int .u8 0), .lit (.int .u8 0), .lit (.int .u8 0), .lit (.int .u8 0), .lit (.int .u8 0), .lit (.int .u8 0), .lit (.int .u8 0), .lit (.int .u8 0), .lit (.int .u8 0), .lit (.int .u8 0), .lit (.int .u8 0), .lit (.int .u8 0), .lit (.int .u8 0), .lit (.int .u8 0), .lit (.int .u8 0), .lit (.int .u8 0), .lit (.int .u8 0), .lit (.int .u8 0), .lit (.int .u8 0), .lit (.int .u8 0), .lit (.int .u8 0), .lit (.int .u8 0), .lit (.int .u8 0), .lit (.int .u8 0), .lit (.int .u8 0), .lit (.int .u8 0), .lit (.int .u8 0), .lit (.int .u8 0), .lit (.int .u8 0), .lit (.int .u8 0), .lit (.int .u8 0), .lit (.int .u8 0), .lit (.int .u8 0), .lit (.int .u8 0), .lit (.int .u8 0), .lit (.int .u8 0), .lit (.int .u8 0), .lit (.int .u8 0), .lit (.int .u8 0), .lit (.int .u8 0), .lit (.int .u8 0), .lit (.int .u8 0), .lit (.int .u8 0), .lit (.int .u8 0), .lit (.int .u8 0), .lit (.int .u8 0), .lit (.int .u8 0), .lit (.int .u8 0), .lit (.int .u8 0), .lit (.int .u8 0), .lit (.int .u8 0), .lit (.int .u8 0), .lit (.int .u8 0), .lit (.int .u8 0), .lit (.int .u8 0), .lit (.int .u8 0), .lit (.int .u8 0), .lit (.int .u8 0), .lit (.int .u8 0), .lit (.int .u8 0), .lit (.int .u8 0), .lit (.int .u8 0), .lit (.int .u8 0), .lit (.int .u8 0), .lit (.int .u8 0), .lit (.int .u8 0), .lit (.int .u8 0), .lit (.int .u8 0), .lit (.int .u8 0), .lit (.int .u8 0), .lit (.int .u8 0), .lit (.int .u8 0), .lit (.int .u8 0), .lit (.int .u8 0), .lit (.int .u8 0), .lit (.int .u8 0), .lit (.int .u8 0), .lit (.int .u8 0), .lit (.int .u8 0), .lit (.int .u8 0), .lit (.int .u8 0), .lit (.int .u8 0), .lit (.int .u8 0), .lit (.int .u8 0), .lit (.int .u8 0), .lit (.int .u8 0), .lit (.int .u8 0), .lit (.int .u8 0), .lit (.int .u8 0), .lit (.int .u8 0), .lit (.int .u8 0), .lit (.int .u8 0), .lit (.int .u8 0), .lit (.int .u8 0), .lit (.int .u8 0)]
/-- One of Go's own tables, pinned by name: the form's constant. -/
def laid_unicode_utf8_first : DataW Unit := Go.Pinned.utf8First

/-- 'zzlaws_internal_dockerfile_b1.FnEnvReadsLikeLabelOrOnePair': WHATEVER THE INPUT: true; the input reads as it did. -/
def fnEnvReadsLikeLabelOrOnePairSpec : ChangeSpec := { name := "fnEnvReadsLikeLabelOrOnePair", fn := fun _ => fun
  | [d1, d2, d3, d4, d5, d6, d7, d8] => { results := [.lit (.bool true)], args := [d1, d2, d3, d4, d5, d6, d7, d8] }
  | _ => none }
def fnEnvReadsLikeLabelOrOnePairRow : OpenClaim := { program := "qxb6609067afmt", sum := "0a60f2e63cf389cfb45463cd26aa686d035e21aae06c5673988f6b28512e9872", func := "example.com/caddis/caddis/zzlaws_internal_dockerfile_b1.FnEnvReadsLikeLabelOrOnePair", spec := "fnEnvReadsLikeLabelOrOnePair", stops := ["fmt.errorf"], inPlace := ["internal/bytealg.CountString", "internal/bytealg.IndexByteString", "internal/bytealg.IndexString", "internal/abi.NoEscape", "internal/bytealg.MakeNoZero", "fmt.errorf"], unfollowed := true, recurses := true, named := ["internal/bytealg.MaxLen", "unicode/utf8.first", "unicode/utf8.acceptRanges", "strings.asciiSpace", "unicode.White_Space"], apart := false, laid := [("unicode/utf8.acceptRanges", laid_unicode_utf8_acceptRanges), ("unicode.White_Space", laid_unicode_White_Space), ("strings.asciiSpace", laid_strings_asciiSpace), ("unicode/utf8.first", laid_unicode_utf8_first)] }
/-- NO THEOREM (fmt's text is open here; it may be false): for the released tool's asking of the row's closed facts alone. THE STATEMENT IS 'FnEnvReadsLikeLabelOrOnePairToldSaid' (Qxb6609067aFmtCards.lean). -/
def FnEnvReadsLikeLabelOrOnePairFormAsk : Prop := fnEnvReadsLikeLabelOrOnePairRow.holds Tryf.pinned (OpenSpec.ofChange fnEnvReadsLikeLabelOrOnePairSpec)

/-- ITS FALSE NEIGHBOUR: 'it returns false'. Refute it at one input. -/
def fnEnvReadsLikeLabelOrOnePairWrong : ChangeSpec := { name := "fnEnvReadsLikeLabelOrOnePair", fn := fun _ => fun
  | [d1, d2, d3, d4, d5, d6, d7, d8] => { results := [.lit (.bool false)], args := [d1, d2, d3, d4, d5, d6, d7, d8] }
  | _ => none }
def FnEnvReadsLikeLabelOrOnePairWrongFormAsk : Prop := fnEnvReadsLikeLabelOrOnePairRow.holds Tryf.pinned (OpenSpec.ofChange fnEnvReadsLikeLabelOrOnePairWrong)

/-- 'zzlaws_internal_dockerfile_b1.FnEnvTwiceReplacesOrAppends': WHATEVER THE INPUT: true; the input reads as it did. -/
def fnEnvTwiceReplacesOrAppendsSpec : ChangeSpec := { name := "fnEnvTwiceReplacesOrAppends", fn := fun _ => fun
  | [d1, d2, d3, d4, d5, d6, d7, d8] => { results := [.lit (.bool true)], args := [d1, d2, d3, d4, d5, d6, d7, d8] }
  | _ => none }
def fnEnvTwiceReplacesOrAppendsRow : OpenClaim := { program := "qxb6609067afmt", sum := "0a60f2e63cf389cfb45463cd26aa686d035e21aae06c5673988f6b28512e9872", func := "example.com/caddis/caddis/zzlaws_internal_dockerfile_b1.FnEnvTwiceReplacesOrAppends", spec := "fnEnvTwiceReplacesOrAppends", stops := ["fmt.errorf"], inPlace := ["internal/bytealg.CountString", "internal/bytealg.IndexByteString", "internal/bytealg.IndexString", "internal/abi.NoEscape", "internal/bytealg.MakeNoZero", "fmt.errorf"], unfollowed := true, recurses := true, named := ["internal/bytealg.MaxLen", "unicode/utf8.first", "unicode/utf8.acceptRanges", "strings.asciiSpace", "unicode.White_Space"], apart := false, laid := [("unicode/utf8.acceptRanges", laid_unicode_utf8_acceptRanges), ("unicode.White_Space", laid_unicode_White_Space), ("strings.asciiSpace", laid_strings_asciiSpace), ("unicode/utf8.first", laid_unicode_utf8_first)] }
/-- NO THEOREM (fmt's text is open here; it may be false): for the released tool's asking of the row's closed facts alone. THE STATEMENT IS 'FnEnvTwiceReplacesOrAppendsToldSaid' (Qxb6609067aFmtCards.lean). -/
def FnEnvTwiceReplacesOrAppendsFormAsk : Prop := fnEnvTwiceReplacesOrAppendsRow.holds Tryf.pinned (OpenSpec.ofChange fnEnvTwiceReplacesOrAppendsSpec)

/-- ITS FALSE NEIGHBOUR: 'it returns false'. Refute it at one input. -/
def fnEnvTwiceReplacesOrAppendsWrong : ChangeSpec := { name := "fnEnvTwiceReplacesOrAppends", fn := fun _ => fun
  | [d1, d2, d3, d4, d5, d6, d7, d8] => { results := [.lit (.bool false)], args := [d1, d2, d3, d4, d5, d6, d7, d8] }
  | _ => none }
def FnEnvTwiceReplacesOrAppendsWrongFormAsk : Prop := fnEnvTwiceReplacesOrAppendsRow.holds Tryf.pinned (OpenSpec.ofChange fnEnvTwiceReplacesOrAppendsWrong)

/-- 'zzlaws_internal_dockerfile_b1.FnLabelAppendsPairsAsWritten': WHATEVER THE INPUT: true; the input reads as it did. -/
def fnLabelAppendsPairsAsWrittenSpec : ChangeSpec := { name := "fnLabelAppendsPairsAsWritten", fn := fun _ => fun
  | [d1, d2, d3, d4, d5, d6, d7, d8] => { results := [.lit (.bool true)], args := [d1, d2, d3, d4, d5, d6, d7, d8] }
  | _ => none }
def fnLabelAppendsPairsAsWrittenRow : OpenClaim := { program := "qxb6609067afmt", sum := "0a60f2e63cf389cfb45463cd26aa686d035e21aae06c5673988f6b28512e9872", func := "example.com/caddis/caddis/zzlaws_internal_dockerfile_b1.FnLabelAppendsPairsAsWritten", spec := "fnLabelAppendsPairsAsWritten", stops := ["fmt.errorf"], inPlace := ["internal/bytealg.IndexByteString", "fmt.errorf"], apart := false }
/-- NO THEOREM (fmt's text is open here; it may be false): for the released tool's asking of the row's closed facts alone. THE STATEMENT IS 'FnLabelAppendsPairsAsWrittenToldSaid' (Qxb6609067aFmtCards.lean). -/
def FnLabelAppendsPairsAsWrittenFormAsk : Prop := fnLabelAppendsPairsAsWrittenRow.holds Tryf.pinned (OpenSpec.ofChange fnLabelAppendsPairsAsWrittenSpec)

/-- ITS FALSE NEIGHBOUR: 'it returns false'. Refute it at one input. -/
def fnLabelAppendsPairsAsWrittenWrong : ChangeSpec := { name := "fnLabelAppendsPairsAsWritten", fn := fun _ => fun
  | [d1, d2, d3, d4, d5, d6, d7, d8] => { results := [.lit (.bool false)], args := [d1, d2, d3, d4, d5, d6, d7, d8] }
  | _ => none }
def FnLabelAppendsPairsAsWrittenWrongFormAsk : Prop := fnLabelAppendsPairsAsWrittenRow.holds Tryf.pinned (OpenSpec.ofChange fnLabelAppendsPairsAsWrittenWrong)

/-- 'zzlaws_internal_dockerfile_b1.FnWorkdirAndLabelCommute': WHATEVER THE INPUT: true; the input reads as it did. -/
def fnWorkdirAndLabelCommuteSpec : ChangeSpec := { name := "fnWorkdirAndLabelCommute", fn := fun _ => fun
  | [d1, d2, d3, d4, d5, d6, d7, d8] => { results := [.lit (.bool true)], args := [d1, d2, d3, d4, d5, d6, d7, d8] }
  | _ => none }
def fnWorkdirAndLabelCommuteRow : OpenClaim := { program := "qxb6609067afmt", sum := "0a60f2e63cf389cfb45463cd26aa686d035e21aae06c5673988f6b28512e9872", func := "example.com/caddis/caddis/zzlaws_internal_dockerfile_b1.FnWorkdirAndLabelCommute", spec := "fnWorkdirAndLabelCommute", stops := ["fmt.errorf"], inPlace := ["internal/bytealg.IndexByteString", "fmt.errorf"], apart := false }
/-- NO THEOREM (fmt's text is open here; it may be false): for the released tool's asking of the row's closed facts alone. THE STATEMENT IS 'FnWorkdirAndLabelCommuteToldSaid' (Qxb6609067aFmtCards.lean). -/
def FnWorkdirAndLabelCommuteFormAsk : Prop := fnWorkdirAndLabelCommuteRow.holds Tryf.pinned (OpenSpec.ofChange fnWorkdirAndLabelCommuteSpec)

/-- ITS FALSE NEIGHBOUR: 'it returns false'. Refute it at one input. -/
def fnWorkdirAndLabelCommuteWrong : ChangeSpec := { name := "fnWorkdirAndLabelCommute", fn := fun _ => fun
  | [d1, d2, d3, d4, d5, d6, d7, d8] => { results := [.lit (.bool false)], args := [d1, d2, d3, d4, d5, d6, d7, d8] }
  | _ => none }
def FnWorkdirAndLabelCommuteWrongFormAsk : Prop := fnWorkdirAndLabelCommuteRow.holds Tryf.pinned (OpenSpec.ofChange fnWorkdirAndLabelCommuteWrong)

end Rows
end Go.Proofs.Qxb6609067aFmt
