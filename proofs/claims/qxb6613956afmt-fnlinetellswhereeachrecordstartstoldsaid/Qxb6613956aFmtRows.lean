/-
  NARROWER THAN 'FOR EVERY INPUT', by the rows' own cells (each row's printed sentence says how): FnWriteThenReadGivesRecordsBack: laid · FnReadFollowsTheDocumentedGrammar: laid · FnLineTellsWhereEachRecordStarts: laid · FnReadLineHandsOutTheTextLineByLine: laid · FnReadLineCutsAtEveryLineFeed: laid.
  DERIVED. THE GIVEN ROWS OF THIS SEAT. 5 by the template 'for every input the law returns true; each argument reads behind the call as it read before'; 0 by the template 'total and deterministic' (their statements: Qxb6613956aFmtTotals.lean).
  GIVEN WITH THE SEED: the statements are not yours to turn. If you find one false, say at which input.
  Laid BY PROGRAM, IN A SANDBOX (cutbox-rows.mjs): the forced cells as the released guide's own fill.sh prints them over the translation 7f81b178c34a5fcc… (all of the seat's roots in one cut). By AI agents, Wed Nov 11 2026. No macro, syntax, notation, axiom, sorry.
-/
import Derived.Test.Qxb6613956aFmtChecked
import GoSem.PinnedTables
import GoSem.Claim
import GoSem.ClaimJoined
import GoSem.ClaimMapViews
import Derived.JoinedTies
import Derived.KernelRfl
namespace Go.Proofs.Qxb6613956aFmt
/- THE CELL 'sum', in the pinned program and in every row, IS THE sha256 OF THE DUMP (.gsa) THAT Qxb6613956aFmtProg.lean LOADS. Nothing in Lean hashes anything: it is a label: what it is worth is what the hold of that sum in a sandbox is worth. -/
noncomputable def Tryf.pinned : Pinned := { name := "qxb6613956afmt", sum := "7f81b178c34a5fccac9c224ad57fa34bc690b26de58db28c6b964a68372a5ea5", checked := Tryf.checked }
namespace Rows
def none {H : Type} : Left H := { results := [], args := [] }

/- WHAT THE LISTED PACKAGE-LEVEL VARIABLES READ AS WHEN THE CALL BEGINS. Each datum BY PROGRAM (the guide's laid-datum.mjs) off the statement by which the dump's own 'gosem.cut.vars' lays the variable. In a bare row this is a premise. The card (Qxb6613956aFmtCards.lean) ties it to the program's text. -/
def laid_unicode_utf8_acceptRanges {H : Type} : DataW H := .agg [.agg [.lit (.int .u8 128), .lit (.int .u8 191)], .agg [.lit (.int .u8 160), .lit (.int .u8 191)], .agg [.lit (.int .u8 128), .lit (.int .u8 159)], .agg [.lit (.int .u8 144), .lit (.int .u8 191)], .agg [.lit (.int .u8 128), .lit (.int .u8 143)], .agg [.lit (.int .u8 0), .lit (.int .u8 0)], .agg [.lit (.int .u8 0), .lit (.int .u8 0)], .agg [.lit (.int .u8 0), .lit (.int .u8 0)], .agg [.lit (.int .u8 0), .lit (.int .u8 0)], .agg [.lit (.int .u8 0), .lit (.int .u8 0)], .agg [.lit (.int .u8 0), .lit (.int .u8 0)], .agg [.lit (.int .u8 0), .lit (.int .u8 0)], .agg [.lit (.int .u8 0), .lit (.int .u8 0)], .agg [.lit (.int .u8 0), .lit (.int .u8 0)], .agg [.lit (.int .u8 0), .lit (.int .u8 0)], .agg [.lit (.int .u8 0), .lit (.int .u8 0)]]
def laid_io_ErrShortWrite {H : Type} : DataW H := .iface "*errors.errorString" (.ptr (.agg [.lit (.string [115, 104, 111, 114, 116, 32, 119, 114, 105, 116, 101])]))
def laid_io_EOF {H : Type} : DataW H := .iface "*errors.errorString" (.ptr (.agg [.lit (.string [69, 79, 70])]))
def laid_io_ErrNoProgress {H : Type} : DataW H := .iface "*errors.errorString" (.ptr (.agg [.lit (.string [109, 117, 108, 116, 105, 112, 108, 101, 32, 82, 101, 97, 100, 32, 99, 97, 108, 108, 115, 32, 114, 101, 116, 117, 114, 110, 32, 110, 111, 32, 100, 97, 116, 97, 32, 111, 114, 32, 101, 114, 114, 111, 114])]))
def laid_bufio_ErrBufferFull {H : Type} : DataW H := .iface "*errors.errorString" (.ptr (.agg [.lit (.string [98, 117, 102, 105, 111, 58, 32, 98, 117, 102, 102, 101, 114, 32, 102, 117, 108, 108])]))
def laid_bufio_errNegativeRead {H : Type} : DataW H := .iface "*errors.errorString" (.ptr (.agg [.lit (.string [98, 117, 102, 105, 111, 58, 32, 114, 101, 97, 100, 101, 114, 32, 114, 101, 116, 117, 114, 110, 101, 100, 32, 110, 101, 103, 97, 116, 105, 118, 101, 32, 99, 111, 117, 110, 116, 32, 102, 114, 111, 109, 32, 82, 101, 97, 100])]))
/-- One of Go's own tables, pinned by name: the form's constant. -/
def laid_unicode_utf8_first : DataW Unit := Go.Pinned.utf8First

/-- 'zzlaws_pkg_csv_b1.FnWriteThenReadGivesRecordsBack': WHATEVER THE INPUT: true; the input reads as it did. -/
def fnWriteThenReadGivesRecordsBackSpec : ChangeSpec := { name := "fnWriteThenReadGivesRecordsBack", fn := fun _ => fun
  | [d] => { results := [.lit (.bool true)], args := [d] }
  | _ => none }
def fnWriteThenReadGivesRecordsBackRow : OpenClaim := { program := "qxb6613956afmt", sum := "7f81b178c34a5fccac9c224ad57fa34bc690b26de58db28c6b964a68372a5ea5", func := "example.com/zhaomu/zhaomu/zzlaws_pkg_csv_b1.FnWriteThenReadGivesRecordsBack", spec := "fnWriteThenReadGivesRecordsBack", stops := ["fmt.errorf"], inPlace := ["internal/bytealg.IndexByteString", "internal/bytealg.IndexString", "internal/bytealg.CountString", "internal/abi.NoEscape", "internal/bytealg.MakeNoZero", "internal/bytealg.IndexByte", "fmt.errorf", "internal/bytealg.Index"], unfollowed := true, recurses := true, named := ["io.ErrShortWrite", "internal/bytealg.MaxLen", "unicode/utf8.first", "unicode/utf8.acceptRanges", "io.EOF", "bufio.ErrBufferFull", "bufio.errNegativeRead", "io.ErrNoProgress"], apart := false, laid := [("unicode/utf8.acceptRanges", laid_unicode_utf8_acceptRanges), ("io.ErrShortWrite", laid_io_ErrShortWrite), ("io.EOF", laid_io_EOF), ("io.ErrNoProgress", laid_io_ErrNoProgress), ("bufio.ErrBufferFull", laid_bufio_ErrBufferFull), ("bufio.errNegativeRead", laid_bufio_errNegativeRead), ("unicode/utf8.first", laid_unicode_utf8_first)] }
/-- NO THEOREM (fmt's text is open here; it may be false): for the released tool's asking of the row's closed facts alone. THE STATEMENT IS 'FnWriteThenReadGivesRecordsBackToldSaid' (Qxb6613956aFmtCards.lean). -/
def FnWriteThenReadGivesRecordsBackFormAsk : Prop := fnWriteThenReadGivesRecordsBackRow.holds Tryf.pinned (OpenSpec.ofChange fnWriteThenReadGivesRecordsBackSpec)

/-- ITS FALSE NEIGHBOUR: 'it returns false'. Refute it at one input. -/
def fnWriteThenReadGivesRecordsBackWrong : ChangeSpec := { name := "fnWriteThenReadGivesRecordsBack", fn := fun _ => fun
  | [d] => { results := [.lit (.bool false)], args := [d] }
  | _ => none }
def FnWriteThenReadGivesRecordsBackWrongFormAsk : Prop := fnWriteThenReadGivesRecordsBackRow.holds Tryf.pinned (OpenSpec.ofChange fnWriteThenReadGivesRecordsBackWrong)

/-- 'zzlaws_pkg_csv_b1.FnReadFollowsTheDocumentedGrammar': WHATEVER THE INPUT: true; the input reads as it did. -/
def fnReadFollowsTheDocumentedGrammarSpec : ChangeSpec := { name := "fnReadFollowsTheDocumentedGrammar", fn := fun _ => fun
  | [d] => { results := [.lit (.bool true)], args := [d] }
  | _ => none }
def fnReadFollowsTheDocumentedGrammarRow : OpenClaim := { program := "qxb6613956afmt", sum := "7f81b178c34a5fccac9c224ad57fa34bc690b26de58db28c6b964a68372a5ea5", func := "example.com/zhaomu/zhaomu/zzlaws_pkg_csv_b1.FnReadFollowsTheDocumentedGrammar", spec := "fnReadFollowsTheDocumentedGrammar", stops := ["fmt.errorf"], inPlace := ["internal/bytealg.IndexByte", "fmt.errorf", "internal/bytealg.Index"], unfollowed := true, recurses := true, named := ["io.EOF", "bufio.ErrBufferFull", "bufio.errNegativeRead", "io.ErrNoProgress", "internal/bytealg.MaxLen"], apart := false, laid := [("io.EOF", laid_io_EOF), ("io.ErrNoProgress", laid_io_ErrNoProgress), ("bufio.ErrBufferFull", laid_bufio_ErrBufferFull), ("bufio.errNegativeRead", laid_bufio_errNegativeRead)] }
/-- NO THEOREM (fmt's text is open here; it may be false): for the released tool's asking of the row's closed facts alone. THE STATEMENT IS 'FnReadFollowsTheDocumentedGrammarToldSaid' (Qxb6613956aFmtCards.lean). -/
def FnReadFollowsTheDocumentedGrammarFormAsk : Prop := fnReadFollowsTheDocumentedGrammarRow.holds Tryf.pinned (OpenSpec.ofChange fnReadFollowsTheDocumentedGrammarSpec)

/-- ITS FALSE NEIGHBOUR: 'it returns false'. Refute it at one input. -/
def fnReadFollowsTheDocumentedGrammarWrong : ChangeSpec := { name := "fnReadFollowsTheDocumentedGrammar", fn := fun _ => fun
  | [d] => { results := [.lit (.bool false)], args := [d] }
  | _ => none }
def FnReadFollowsTheDocumentedGrammarWrongFormAsk : Prop := fnReadFollowsTheDocumentedGrammarRow.holds Tryf.pinned (OpenSpec.ofChange fnReadFollowsTheDocumentedGrammarWrong)

/-- 'zzlaws_pkg_csv_b1.FnLineTellsWhereEachRecordStarts': WHATEVER THE INPUT: true; the input reads as it did. -/
def fnLineTellsWhereEachRecordStartsSpec : ChangeSpec := { name := "fnLineTellsWhereEachRecordStarts", fn := fun _ => fun
  | [d] => { results := [.lit (.bool true)], args := [d] }
  | _ => none }
def fnLineTellsWhereEachRecordStartsRow : OpenClaim := { program := "qxb6613956afmt", sum := "7f81b178c34a5fccac9c224ad57fa34bc690b26de58db28c6b964a68372a5ea5", func := "example.com/zhaomu/zhaomu/zzlaws_pkg_csv_b1.FnLineTellsWhereEachRecordStarts", spec := "fnLineTellsWhereEachRecordStarts", stops := ["fmt.errorf"], inPlace := ["internal/bytealg.IndexByte", "fmt.errorf", "internal/bytealg.Index"], unfollowed := true, recurses := true, named := ["io.EOF", "bufio.ErrBufferFull", "bufio.errNegativeRead", "io.ErrNoProgress", "internal/bytealg.MaxLen"], apart := false, laid := [("io.EOF", laid_io_EOF), ("io.ErrNoProgress", laid_io_ErrNoProgress), ("bufio.ErrBufferFull", laid_bufio_ErrBufferFull), ("bufio.errNegativeRead", laid_bufio_errNegativeRead)] }
/-- NO THEOREM (fmt's text is open here; it may be false): for the released tool's asking of the row's closed facts alone. THE STATEMENT IS 'FnLineTellsWhereEachRecordStartsToldSaid' (Qxb6613956aFmtCards.lean). -/
def FnLineTellsWhereEachRecordStartsFormAsk : Prop := fnLineTellsWhereEachRecordStartsRow.holds Tryf.pinned (OpenSpec.ofChange fnLineTellsWhereEachRecordStartsSpec)

/-- ITS FALSE NEIGHBOUR: 'it returns false'. Refute it at one input. -/
def fnLineTellsWhereEachRecordStartsWrong : ChangeSpec := { name := "fnLineTellsWhereEachRecordStarts", fn := fun _ => fun
  | [d] => { results := [.lit (.bool false)], args := [d] }
  | _ => none }
def FnLineTellsWhereEachRecordStartsWrongFormAsk : Prop := fnLineTellsWhereEachRecordStartsRow.holds Tryf.pinned (OpenSpec.ofChange fnLineTellsWhereEachRecordStartsWrong)

/-- 'zzlaws_pkg_csv_b1.FnReadLineHandsOutTheTextLineByLine': WHATEVER THE INPUT: true; the input reads as it did. -/
def fnReadLineHandsOutTheTextLineByLineSpec : ChangeSpec := { name := "fnReadLineHandsOutTheTextLineByLine", fn := fun _ => fun
  | [d] => { results := [.lit (.bool true)], args := [d] }
  | _ => none }
def fnReadLineHandsOutTheTextLineByLineRow : OpenClaim := { program := "qxb6613956afmt", sum := "7f81b178c34a5fccac9c224ad57fa34bc690b26de58db28c6b964a68372a5ea5", func := "example.com/zhaomu/zhaomu/zzlaws_pkg_csv_b1.FnReadLineHandsOutTheTextLineByLine", spec := "fnReadLineHandsOutTheTextLineByLine", stops := ["fmt.errorf"], inPlace := ["internal/bytealg.IndexByte", "fmt.errorf"], unfollowed := true, recurses := true, named := ["io.EOF", "bufio.ErrBufferFull", "bufio.errNegativeRead", "io.ErrNoProgress"], apart := false, laid := [("io.EOF", laid_io_EOF), ("io.ErrNoProgress", laid_io_ErrNoProgress), ("bufio.ErrBufferFull", laid_bufio_ErrBufferFull), ("bufio.errNegativeRead", laid_bufio_errNegativeRead)] }
/-- NO THEOREM (fmt's text is open here; it may be false): for the released tool's asking of the row's closed facts alone. THE STATEMENT IS 'FnReadLineHandsOutTheTextLineByLineToldSaid' (Qxb6613956aFmtCards.lean). -/
def FnReadLineHandsOutTheTextLineByLineFormAsk : Prop := fnReadLineHandsOutTheTextLineByLineRow.holds Tryf.pinned (OpenSpec.ofChange fnReadLineHandsOutTheTextLineByLineSpec)

/-- ITS FALSE NEIGHBOUR: 'it returns false'. Refute it at one input. -/
def fnReadLineHandsOutTheTextLineByLineWrong : ChangeSpec := { name := "fnReadLineHandsOutTheTextLineByLine", fn := fun _ => fun
  | [d] => { results := [.lit (.bool false)], args := [d] }
  | _ => none }
def FnReadLineHandsOutTheTextLineByLineWrongFormAsk : Prop := fnReadLineHandsOutTheTextLineByLineRow.holds Tryf.pinned (OpenSpec.ofChange fnReadLineHandsOutTheTextLineByLineWrong)

/-- 'zzlaws_pkg_csv_b1.FnReadLineCutsAtEveryLineFeed': WHATEVER THE INPUT: true; the input reads as it did. -/
def fnReadLineCutsAtEveryLineFeedSpec : ChangeSpec := { name := "fnReadLineCutsAtEveryLineFeed", fn := fun _ => fun
  | [d1, d2] => { results := [.lit (.bool true)], args := [d1, d2] }
  | _ => none }
def fnReadLineCutsAtEveryLineFeedRow : OpenClaim := { program := "qxb6613956afmt", sum := "7f81b178c34a5fccac9c224ad57fa34bc690b26de58db28c6b964a68372a5ea5", func := "example.com/zhaomu/zhaomu/zzlaws_pkg_csv_b1.FnReadLineCutsAtEveryLineFeed", spec := "fnReadLineCutsAtEveryLineFeed", stops := ["fmt.errorf"], inPlace := ["internal/bytealg.IndexByte", "fmt.errorf"], unfollowed := true, recurses := true, named := ["io.EOF", "bufio.ErrBufferFull", "bufio.errNegativeRead", "io.ErrNoProgress"], apart := false, laid := [("io.EOF", laid_io_EOF), ("io.ErrNoProgress", laid_io_ErrNoProgress), ("bufio.ErrBufferFull", laid_bufio_ErrBufferFull), ("bufio.errNegativeRead", laid_bufio_errNegativeRead)] }
/-- NO THEOREM (fmt's text is open here; it may be false): for the released tool's asking of the row's closed facts alone. THE STATEMENT IS 'FnReadLineCutsAtEveryLineFeedToldSaid' (Qxb6613956aFmtCards.lean). -/
def FnReadLineCutsAtEveryLineFeedFormAsk : Prop := fnReadLineCutsAtEveryLineFeedRow.holds Tryf.pinned (OpenSpec.ofChange fnReadLineCutsAtEveryLineFeedSpec)

/-- ITS FALSE NEIGHBOUR: 'it returns false'. Refute it at one input. -/
def fnReadLineCutsAtEveryLineFeedWrong : ChangeSpec := { name := "fnReadLineCutsAtEveryLineFeed", fn := fun _ => fun
  | [d1, d2] => { results := [.lit (.bool false)], args := [d1, d2] }
  | _ => none }
def FnReadLineCutsAtEveryLineFeedWrongFormAsk : Prop := fnReadLineCutsAtEveryLineFeedRow.holds Tryf.pinned (OpenSpec.ofChange fnReadLineCutsAtEveryLineFeedWrong)

end Rows
end Go.Proofs.Qxb6613956aFmt
