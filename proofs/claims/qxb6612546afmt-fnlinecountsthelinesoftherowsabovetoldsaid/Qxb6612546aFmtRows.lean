/-
  NARROWER THAN 'FOR EVERY INPUT', by the rows' own cells (each row's printed sentence says how): FnNextReadsTheRecordsOfTheFile: laid · FnNextGivesBackTheRowsWritten: laid · FnFieldReadsTheNamedColumnOfEachRecord: laid · FnLineIsTheLineWhereTheRecordStarts: laid · FnLineCountsTheLinesOfTheRowsAbove: laid.
  DERIVED. THE GIVEN ROWS OF THIS SEAT. 5 by the template 'for every input the law returns true; each argument reads behind the call as it read before'; 0 by the template 'total and deterministic' (their statements: Qxb6612546aFmtTotals.lean).
  GIVEN WITH THE SEED: the statements are not yours to turn. If you find one false, say at which input.
  Laid BY PROGRAM, IN A SANDBOX (cutbox-rows.mjs): the forced cells as the released guide's own fill.sh prints them over the translation f441159728b99ded… (all of the seat's roots in one cut). By AI agents, Wed Nov 11 2026. No macro, syntax, notation, axiom, sorry.
-/
import Derived.Test.Qxb6612546aFmtChecked
import GoSem.PinnedTables
import GoSem.Claim
import GoSem.ClaimJoined
import GoSem.ClaimMapViews
import Derived.JoinedTies
import Derived.KernelRfl
namespace Go.Proofs.Qxb6612546aFmt
/- THE CELL 'sum', in the pinned program and in every row, IS THE sha256 OF THE DUMP (.gsa) THAT Qxb6612546aFmtProg.lean LOADS. Nothing in Lean hashes anything: it is a label: what it is worth is what the hold of that sum in a sandbox is worth. -/
noncomputable def Tryf.pinned : Pinned := { name := "qxb6612546afmt", sum := "f441159728b99ded278fd548b0a5d47460cd4dad5929a73235d6fc786dabc2c3", checked := Tryf.checked }
namespace Rows
def none {H : Type} : Left H := { results := [], args := [] }

/- WHAT THE LISTED PACKAGE-LEVEL VARIABLES READ AS WHEN THE CALL BEGINS. Each datum BY PROGRAM (the guide's laid-datum.mjs) off the statement by which the dump's own 'gosem.cut.vars' lays the variable. In a bare row this is a premise. The card (Qxb6612546aFmtCards.lean) ties it to the program's text. -/
def laid_unicode_utf8_acceptRanges {H : Type} : DataW H := .agg [.agg [.lit (.int .u8 128), .lit (.int .u8 191)], .agg [.lit (.int .u8 160), .lit (.int .u8 191)], .agg [.lit (.int .u8 128), .lit (.int .u8 159)], .agg [.lit (.int .u8 144), .lit (.int .u8 191)], .agg [.lit (.int .u8 128), .lit (.int .u8 143)], .agg [.lit (.int .u8 0), .lit (.int .u8 0)], .agg [.lit (.int .u8 0), .lit (.int .u8 0)], .agg [.lit (.int .u8 0), .lit (.int .u8 0)], .agg [.lit (.int .u8 0), .lit (.int .u8 0)], .agg [.lit (.int .u8 0), .lit (.int .u8 0)], .agg [.lit (.int .u8 0), .lit (.int .u8 0)], .agg [.lit (.int .u8 0), .lit (.int .u8 0)], .agg [.lit (.int .u8 0), .lit (.int .u8 0)], .agg [.lit (.int .u8 0), .lit (.int .u8 0)], .agg [.lit (.int .u8 0), .lit (.int .u8 0)], .agg [.lit (.int .u8 0), .lit (.int .u8 0)]]
def laid_io_EOF {H : Type} : DataW H := .iface "*errors.errorString" (.ptr (.agg [.lit (.string [69, 79, 70])]))
def laid_io_ErrNoProgress {H : Type} : DataW H := .iface "*errors.errorString" (.ptr (.agg [.lit (.string [109, 117, 108, 116, 105, 112, 108, 101, 32, 82, 101, 97, 100, 32, 99, 97, 108, 108, 115, 32, 114, 101, 116, 117, 114, 110, 32, 110, 111, 32, 100, 97, 116, 97, 32, 111, 114, 32, 101, 114, 114, 111, 114])]))
def laid_unicode_White_Space {H : Type} : DataW H := .ptr (.agg [.slice [.agg [.lit (.int .u16 9), .lit (.int .u16 13), .lit (.int .u16 1)], .agg [.lit (.int .u16 32), .lit (.int .u16 133), .lit (.int .u16 101)], .agg [.lit (.int .u16 160), .lit (.int .u16 5760), .lit (.int .u16 5600)], .agg [.lit (.int .u16 8192), .lit (.int .u16 8202), .lit (.int .u16 1)], .agg [.lit (.int .u16 8232), .lit (.int .u16 8233), .lit (.int .u16 1)], .agg [.lit (.int .u16 8239), .lit (.int .u16 8287), .lit (.int .u16 48)], .agg [.lit (.int .u16 12288), .lit (.int .u16 12288), .lit (.int .u16 1)]] [], .nil, .lit (.int .i64 2)])
def laid_bufio_ErrBufferFull {H : Type} : DataW H := .iface "*errors.errorString" (.ptr (.agg [.lit (.string [98, 117, 102, 105, 111, 58, 32, 98, 117, 102, 102, 101, 114, 32, 102, 117, 108, 108])]))
def laid_bufio_errNegativeRead {H : Type} : DataW H := .iface "*errors.errorString" (.ptr (.agg [.lit (.string [98, 117, 102, 105, 111, 58, 32, 114, 101, 97, 100, 101, 114, 32, 114, 101, 116, 117, 114, 110, 101, 100, 32, 110, 101, 103, 97, 116, 105, 118, 101, 32, 99, 111, 117, 110, 116, 32, 102, 114, 111, 109, 32, 82, 101, 97, 100])]))
def laid_encoding_csv_ErrBareQuote {H : Type} : DataW H := .iface "*errors.errorString" (.ptr (.agg [.lit (.string [98, 97, 114, 101, 32, 34, 32, 105, 110, 32, 110, 111, 110, 45, 113, 117, 111, 116, 101, 100, 45, 102, 105, 101, 108, 100])]))
def laid_encoding_csv_ErrQuote {H : Type} : DataW H := .iface "*errors.errorString" (.ptr (.agg [.lit (.string [101, 120, 116, 114, 97, 110, 101, 111, 117, 115, 32, 111, 114, 32, 109, 105, 115, 115, 105, 110, 103, 32, 34, 32, 105, 110, 32, 113, 117, 111, 116, 101, 100, 45, 102, 105, 101, 108, 100])]))
def laid_encoding_csv_ErrFieldCount {H : Type} : DataW H := .iface "*errors.errorString" (.ptr (.agg [.lit (.string [119, 114, 111, 110, 103, 32, 110, 117, 109, 98, 101, 114, 32, 111, 102, 32, 102, 105, 101, 108, 100, 115])]))
def laid_encoding_csv_errInvalidDelim {H : Type} : DataW H := .iface "*errors.errorString" (.ptr (.agg [.lit (.string [99, 115, 118, 58, 32, 105, 110, 118, 97, 108, 105, 100, 32, 102, 105, 101, 108, 100, 32, 111, 114, 32, 99, 111, 109, 109, 101, 110, 116, 32, 100, 101, 108, 105, 109, 105, 116, 101, 114])]))
/-- One of Go's own tables, pinned by name: the form's constant. -/
def laid_unicode_utf8_first : DataW Unit := Go.Pinned.utf8First

/-- 'zzlaws_table_b1.FnNextReadsTheRecordsOfTheFile': WHATEVER THE INPUT: true; the input reads as it did. -/
def fnNextReadsTheRecordsOfTheFileSpec : ChangeSpec := { name := "fnNextReadsTheRecordsOfTheFile", fn := fun _ => fun
  | [d1, d2, d3] => { results := [.lit (.bool true)], args := [d1, d2, d3] }
  | _ => none }
def fnNextReadsTheRecordsOfTheFileRow : OpenClaim := { program := "qxb6612546afmt", sum := "f441159728b99ded278fd548b0a5d47460cd4dad5929a73235d6fc786dabc2c3", func := "example.com/zhaomu/zhaomu/zzlaws_table_b1.FnNextReadsTheRecordsOfTheFile", spec := "fnNextReadsTheRecordsOfTheFile", stops := ["fmt.Sprintf", "fmt.errorf"], inPlace := ["internal/bytealg.IndexByte", "internal/bytealg.Index", "fmt.errorf"], unfollowed := true, recurses := true, named := ["io.EOF", "encoding/csv.errInvalidDelim", "encoding/csv.ErrBareQuote", "encoding/csv.ErrQuote", "encoding/csv.ErrFieldCount", "bufio.ErrBufferFull", "bufio.errNegativeRead", "io.ErrNoProgress", "unicode/utf8.first", "unicode/utf8.acceptRanges", "unicode.White_Space", "internal/bytealg.MaxLen"], apart := false, laid := [("unicode/utf8.acceptRanges", laid_unicode_utf8_acceptRanges), ("io.EOF", laid_io_EOF), ("io.ErrNoProgress", laid_io_ErrNoProgress), ("unicode.White_Space", laid_unicode_White_Space), ("bufio.ErrBufferFull", laid_bufio_ErrBufferFull), ("bufio.errNegativeRead", laid_bufio_errNegativeRead), ("encoding/csv.ErrBareQuote", laid_encoding_csv_ErrBareQuote), ("encoding/csv.ErrQuote", laid_encoding_csv_ErrQuote), ("encoding/csv.ErrFieldCount", laid_encoding_csv_ErrFieldCount), ("encoding/csv.errInvalidDelim", laid_encoding_csv_errInvalidDelim), ("unicode/utf8.first", laid_unicode_utf8_first)] }
/-- NO THEOREM (fmt's text is open here; it may be false): for the released tool's asking of the row's closed facts alone. THE STATEMENT IS 'FnNextReadsTheRecordsOfTheFileToldSaid' (Qxb6612546aFmtCards.lean). -/
def FnNextReadsTheRecordsOfTheFileFormAsk : Prop := fnNextReadsTheRecordsOfTheFileRow.holds Tryf.pinned (OpenSpec.ofChange fnNextReadsTheRecordsOfTheFileSpec)

/-- ITS FALSE NEIGHBOUR: 'it returns false'. Refute it at one input. -/
def fnNextReadsTheRecordsOfTheFileWrong : ChangeSpec := { name := "fnNextReadsTheRecordsOfTheFile", fn := fun _ => fun
  | [d1, d2, d3] => { results := [.lit (.bool false)], args := [d1, d2, d3] }
  | _ => none }
def FnNextReadsTheRecordsOfTheFileWrongFormAsk : Prop := fnNextReadsTheRecordsOfTheFileRow.holds Tryf.pinned (OpenSpec.ofChange fnNextReadsTheRecordsOfTheFileWrong)

/-- 'zzlaws_table_b1.FnNextGivesBackTheRowsWritten': WHATEVER THE INPUT: true; the input reads as it did. -/
def fnNextGivesBackTheRowsWrittenSpec : ChangeSpec := { name := "fnNextGivesBackTheRowsWritten", fn := fun _ => fun
  | [d1, d2] => { results := [.lit (.bool true)], args := [d1, d2] }
  | _ => none }
def fnNextGivesBackTheRowsWrittenRow : OpenClaim := { program := "qxb6612546afmt", sum := "f441159728b99ded278fd548b0a5d47460cd4dad5929a73235d6fc786dabc2c3", func := "example.com/zhaomu/zhaomu/zzlaws_table_b1.FnNextGivesBackTheRowsWritten", spec := "fnNextGivesBackTheRowsWritten", stops := ["fmt.Sprintf", "fmt.errorf"], inPlace := ["internal/bytealg.IndexByte", "internal/bytealg.Index", "fmt.errorf"], unfollowed := true, recurses := true, named := ["io.EOF", "encoding/csv.errInvalidDelim", "encoding/csv.ErrBareQuote", "encoding/csv.ErrQuote", "encoding/csv.ErrFieldCount", "bufio.ErrBufferFull", "bufio.errNegativeRead", "io.ErrNoProgress", "unicode/utf8.first", "unicode/utf8.acceptRanges", "unicode.White_Space", "internal/bytealg.MaxLen"], apart := false, laid := [("unicode/utf8.acceptRanges", laid_unicode_utf8_acceptRanges), ("io.EOF", laid_io_EOF), ("io.ErrNoProgress", laid_io_ErrNoProgress), ("unicode.White_Space", laid_unicode_White_Space), ("bufio.ErrBufferFull", laid_bufio_ErrBufferFull), ("bufio.errNegativeRead", laid_bufio_errNegativeRead), ("encoding/csv.ErrBareQuote", laid_encoding_csv_ErrBareQuote), ("encoding/csv.ErrQuote", laid_encoding_csv_ErrQuote), ("encoding/csv.ErrFieldCount", laid_encoding_csv_ErrFieldCount), ("encoding/csv.errInvalidDelim", laid_encoding_csv_errInvalidDelim), ("unicode/utf8.first", laid_unicode_utf8_first)] }
/-- NO THEOREM (fmt's text is open here; it may be false): for the released tool's asking of the row's closed facts alone. THE STATEMENT IS 'FnNextGivesBackTheRowsWrittenToldSaid' (Qxb6612546aFmtCards.lean). -/
def FnNextGivesBackTheRowsWrittenFormAsk : Prop := fnNextGivesBackTheRowsWrittenRow.holds Tryf.pinned (OpenSpec.ofChange fnNextGivesBackTheRowsWrittenSpec)

/-- ITS FALSE NEIGHBOUR: 'it returns false'. Refute it at one input. -/
def fnNextGivesBackTheRowsWrittenWrong : ChangeSpec := { name := "fnNextGivesBackTheRowsWritten", fn := fun _ => fun
  | [d1, d2] => { results := [.lit (.bool false)], args := [d1, d2] }
  | _ => none }
def FnNextGivesBackTheRowsWrittenWrongFormAsk : Prop := fnNextGivesBackTheRowsWrittenRow.holds Tryf.pinned (OpenSpec.ofChange fnNextGivesBackTheRowsWrittenWrong)

/-- 'zzlaws_table_b1.FnFieldReadsTheNamedColumnOfEachRecord': WHATEVER THE INPUT: true; the input reads as it did. -/
def fnFieldReadsTheNamedColumnOfEachRecordSpec : ChangeSpec := { name := "fnFieldReadsTheNamedColumnOfEachRecord", fn := fun _ => fun
  | [d1, d2, d3, d4] => { results := [.lit (.bool true)], args := [d1, d2, d3, d4] }
  | _ => none }
def fnFieldReadsTheNamedColumnOfEachRecordRow : OpenClaim := { program := "qxb6612546afmt", sum := "f441159728b99ded278fd548b0a5d47460cd4dad5929a73235d6fc786dabc2c3", func := "example.com/zhaomu/zhaomu/zzlaws_table_b1.FnFieldReadsTheNamedColumnOfEachRecord", spec := "fnFieldReadsTheNamedColumnOfEachRecord", stops := ["fmt.Sprintf", "fmt.errorf"], inPlace := ["internal/bytealg.IndexByte", "internal/bytealg.Index", "fmt.errorf", "fmt.Sprintf"], unfollowed := true, recurses := true, named := ["io.EOF", "encoding/csv.errInvalidDelim", "encoding/csv.ErrBareQuote", "encoding/csv.ErrQuote", "encoding/csv.ErrFieldCount", "bufio.ErrBufferFull", "bufio.errNegativeRead", "io.ErrNoProgress", "unicode/utf8.first", "unicode/utf8.acceptRanges", "unicode.White_Space", "internal/bytealg.MaxLen"], apart := false, laid := [("unicode/utf8.acceptRanges", laid_unicode_utf8_acceptRanges), ("io.EOF", laid_io_EOF), ("io.ErrNoProgress", laid_io_ErrNoProgress), ("unicode.White_Space", laid_unicode_White_Space), ("bufio.ErrBufferFull", laid_bufio_ErrBufferFull), ("bufio.errNegativeRead", laid_bufio_errNegativeRead), ("encoding/csv.ErrBareQuote", laid_encoding_csv_ErrBareQuote), ("encoding/csv.ErrQuote", laid_encoding_csv_ErrQuote), ("encoding/csv.ErrFieldCount", laid_encoding_csv_ErrFieldCount), ("encoding/csv.errInvalidDelim", laid_encoding_csv_errInvalidDelim), ("unicode/utf8.first", laid_unicode_utf8_first)] }
/-- NO THEOREM (fmt's text is open here; it may be false): for the released tool's asking of the row's closed facts alone. THE STATEMENT IS 'FnFieldReadsTheNamedColumnOfEachRecordToldSaid' (Qxb6612546aFmtCards.lean). -/
def FnFieldReadsTheNamedColumnOfEachRecordFormAsk : Prop := fnFieldReadsTheNamedColumnOfEachRecordRow.holds Tryf.pinned (OpenSpec.ofChange fnFieldReadsTheNamedColumnOfEachRecordSpec)

/-- ITS FALSE NEIGHBOUR: 'it returns false'. Refute it at one input. -/
def fnFieldReadsTheNamedColumnOfEachRecordWrong : ChangeSpec := { name := "fnFieldReadsTheNamedColumnOfEachRecord", fn := fun _ => fun
  | [d1, d2, d3, d4] => { results := [.lit (.bool false)], args := [d1, d2, d3, d4] }
  | _ => none }
def FnFieldReadsTheNamedColumnOfEachRecordWrongFormAsk : Prop := fnFieldReadsTheNamedColumnOfEachRecordRow.holds Tryf.pinned (OpenSpec.ofChange fnFieldReadsTheNamedColumnOfEachRecordWrong)

/-- 'zzlaws_table_b1.FnLineIsTheLineWhereTheRecordStarts': WHATEVER THE INPUT: true; the input reads as it did. -/
def fnLineIsTheLineWhereTheRecordStartsSpec : ChangeSpec := { name := "fnLineIsTheLineWhereTheRecordStarts", fn := fun _ => fun
  | [d1, d2, d3] => { results := [.lit (.bool true)], args := [d1, d2, d3] }
  | _ => none }
def fnLineIsTheLineWhereTheRecordStartsRow : OpenClaim := { program := "qxb6612546afmt", sum := "f441159728b99ded278fd548b0a5d47460cd4dad5929a73235d6fc786dabc2c3", func := "example.com/zhaomu/zhaomu/zzlaws_table_b1.FnLineIsTheLineWhereTheRecordStarts", spec := "fnLineIsTheLineWhereTheRecordStarts", stops := ["fmt.Sprintf", "fmt.errorf"], inPlace := ["internal/bytealg.IndexByte", "internal/bytealg.Index", "fmt.errorf"], unfollowed := true, recurses := true, named := ["io.EOF", "encoding/csv.errInvalidDelim", "encoding/csv.ErrBareQuote", "encoding/csv.ErrQuote", "encoding/csv.ErrFieldCount", "bufio.ErrBufferFull", "bufio.errNegativeRead", "io.ErrNoProgress", "unicode/utf8.first", "unicode/utf8.acceptRanges", "unicode.White_Space", "internal/bytealg.MaxLen"], apart := false, laid := [("unicode/utf8.acceptRanges", laid_unicode_utf8_acceptRanges), ("io.EOF", laid_io_EOF), ("io.ErrNoProgress", laid_io_ErrNoProgress), ("unicode.White_Space", laid_unicode_White_Space), ("bufio.ErrBufferFull", laid_bufio_ErrBufferFull), ("bufio.errNegativeRead", laid_bufio_errNegativeRead), ("encoding/csv.ErrBareQuote", laid_encoding_csv_ErrBareQuote), ("encoding/csv.ErrQuote", laid_encoding_csv_ErrQuote), ("encoding/csv.ErrFieldCount", laid_encoding_csv_ErrFieldCount), ("encoding/csv.errInvalidDelim", laid_encoding_csv_errInvalidDelim), ("unicode/utf8.first", laid_unicode_utf8_first)] }
/-- NO THEOREM (fmt's text is open here; it may be false): for the released tool's asking of the row's closed facts alone. THE STATEMENT IS 'FnLineIsTheLineWhereTheRecordStartsToldSaid' (Qxb6612546aFmtCards.lean). -/
def FnLineIsTheLineWhereTheRecordStartsFormAsk : Prop := fnLineIsTheLineWhereTheRecordStartsRow.holds Tryf.pinned (OpenSpec.ofChange fnLineIsTheLineWhereTheRecordStartsSpec)

/-- ITS FALSE NEIGHBOUR: 'it returns false'. Refute it at one input. -/
def fnLineIsTheLineWhereTheRecordStartsWrong : ChangeSpec := { name := "fnLineIsTheLineWhereTheRecordStarts", fn := fun _ => fun
  | [d1, d2, d3] => { results := [.lit (.bool false)], args := [d1, d2, d3] }
  | _ => none }
def FnLineIsTheLineWhereTheRecordStartsWrongFormAsk : Prop := fnLineIsTheLineWhereTheRecordStartsRow.holds Tryf.pinned (OpenSpec.ofChange fnLineIsTheLineWhereTheRecordStartsWrong)

/-- 'zzlaws_table_b1.FnLineCountsTheLinesOfTheRowsAbove': WHATEVER THE INPUT: true; the input reads as it did. -/
def fnLineCountsTheLinesOfTheRowsAboveSpec : ChangeSpec := { name := "fnLineCountsTheLinesOfTheRowsAbove", fn := fun _ => fun
  | [d1, d2] => { results := [.lit (.bool true)], args := [d1, d2] }
  | _ => none }
def fnLineCountsTheLinesOfTheRowsAboveRow : OpenClaim := { program := "qxb6612546afmt", sum := "f441159728b99ded278fd548b0a5d47460cd4dad5929a73235d6fc786dabc2c3", func := "example.com/zhaomu/zhaomu/zzlaws_table_b1.FnLineCountsTheLinesOfTheRowsAbove", spec := "fnLineCountsTheLinesOfTheRowsAbove", stops := ["fmt.Sprintf", "fmt.errorf"], inPlace := ["internal/bytealg.IndexByte", "internal/bytealg.Index", "fmt.errorf"], unfollowed := true, recurses := true, named := ["io.EOF", "encoding/csv.errInvalidDelim", "encoding/csv.ErrBareQuote", "encoding/csv.ErrQuote", "encoding/csv.ErrFieldCount", "bufio.ErrBufferFull", "bufio.errNegativeRead", "io.ErrNoProgress", "unicode/utf8.first", "unicode/utf8.acceptRanges", "unicode.White_Space", "internal/bytealg.MaxLen"], apart := false, laid := [("unicode/utf8.acceptRanges", laid_unicode_utf8_acceptRanges), ("io.EOF", laid_io_EOF), ("io.ErrNoProgress", laid_io_ErrNoProgress), ("unicode.White_Space", laid_unicode_White_Space), ("bufio.ErrBufferFull", laid_bufio_ErrBufferFull), ("bufio.errNegativeRead", laid_bufio_errNegativeRead), ("encoding/csv.ErrBareQuote", laid_encoding_csv_ErrBareQuote), ("encoding/csv.ErrQuote", laid_encoding_csv_ErrQuote), ("encoding/csv.ErrFieldCount", laid_encoding_csv_ErrFieldCount), ("encoding/csv.errInvalidDelim", laid_encoding_csv_errInvalidDelim), ("unicode/utf8.first", laid_unicode_utf8_first)] }
/-- NO THEOREM (fmt's text is open here; it may be false): for the released tool's asking of the row's closed facts alone. THE STATEMENT IS 'FnLineCountsTheLinesOfTheRowsAboveToldSaid' (Qxb6612546aFmtCards.lean). -/
def FnLineCountsTheLinesOfTheRowsAboveFormAsk : Prop := fnLineCountsTheLinesOfTheRowsAboveRow.holds Tryf.pinned (OpenSpec.ofChange fnLineCountsTheLinesOfTheRowsAboveSpec)

/-- ITS FALSE NEIGHBOUR: 'it returns false'. Refute it at one input. -/
def fnLineCountsTheLinesOfTheRowsAboveWrong : ChangeSpec := { name := "fnLineCountsTheLinesOfTheRowsAbove", fn := fun _ => fun
  | [d1, d2] => { results := [.lit (.bool false)], args := [d1, d2] }
  | _ => none }
def FnLineCountsTheLinesOfTheRowsAboveWrongFormAsk : Prop := fnLineCountsTheLinesOfTheRowsAboveRow.holds Tryf.pinned (OpenSpec.ofChange fnLineCountsTheLinesOfTheRowsAboveWrong)

end Rows
end Go.Proofs.Qxb6612546aFmt
