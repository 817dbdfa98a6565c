/-
  DERIVED. GIVEN WITH THE SEED: THE CARDS: each row of Qxb6613956aFmtRows.lean that lists a variable, with what it lists TIED to the program's text (the seventh form; the later family's looks); each row that meets fmt, with fmt's text TOLD by the authors' own Lean function (tested against real Go, not proved from fmt's source: count such statements apart). THE CARD IS WHAT COUNTS. Prove the row's statement (the work); the ties are given (Qxb6613956aFmtTie.lean); close each card by the builder's one call (the guide's Derived/Test/ToyasCard.lean, 'card_holds'). Laid BY PROGRAM, IN A SANDBOX (cutbox-door.mjs). By AI agents, Wed Nov 11 2026. No macro, syntax, notation, axiom, sorry.
-/
import Derived.Test.Qxb6613956aFmtRows
import GoSem.ClaimSeven
namespace Go.Proofs.Qxb6613956aFmt
namespace Rows

/-- THE TOLD AND TIED CARD OF 'zzlaws_pkg_csv_b1.FnWriteThenReadGivesRecordsBack'. -/
def fnWriteThenReadGivesRecordsBackCard : Claim7 := { stood := { row := fnWriteThenReadGivesRecordsBackRow, standIns := [], harness := (true, "b5a59dd1013acab10cdd9b91b6d536427784207bf5be395e8700732c8bcfe779"), looks := true }, told := true, laidByText := true, laidKinds := [.data, .sentinel, .sentinel, .sentinel, .sentinel, .sentinel, .pinned], laidTests := true, laidLooks := .later, goes := false }
def FnWriteThenReadGivesRecordsBackToldSaid : Prop := Claim7.holds Tryf.pinned (.plain (OpenSpec.ofChange fnWriteThenReadGivesRecordsBackSpec)) fnWriteThenReadGivesRecordsBackCard
/-- ITS FALSE NEIGHBOUR. Refute it at one input. -/
def FnWriteThenReadGivesRecordsBackToldWrongFalsely : Prop := Claim7.holds Tryf.pinned (.plain (OpenSpec.ofChange fnWriteThenReadGivesRecordsBackWrong)) fnWriteThenReadGivesRecordsBackCard

/-- THE TOLD AND TIED CARD OF 'zzlaws_pkg_csv_b1.FnReadFollowsTheDocumentedGrammar'. -/
def fnReadFollowsTheDocumentedGrammarCard : Claim7 := { stood := { row := fnReadFollowsTheDocumentedGrammarRow, standIns := [], harness := (true, "b5a59dd1013acab10cdd9b91b6d536427784207bf5be395e8700732c8bcfe779"), looks := true }, told := true, laidByText := true, laidKinds := [.sentinel, .sentinel, .sentinel, .sentinel], laidTests := true, laidLooks := .later, goes := false }
def FnReadFollowsTheDocumentedGrammarToldSaid : Prop := Claim7.holds Tryf.pinned (.plain (OpenSpec.ofChange fnReadFollowsTheDocumentedGrammarSpec)) fnReadFollowsTheDocumentedGrammarCard
/-- ITS FALSE NEIGHBOUR. Refute it at one input. -/
def FnReadFollowsTheDocumentedGrammarToldWrongFalsely : Prop := Claim7.holds Tryf.pinned (.plain (OpenSpec.ofChange fnReadFollowsTheDocumentedGrammarWrong)) fnReadFollowsTheDocumentedGrammarCard

/-- THE TOLD AND TIED CARD OF 'zzlaws_pkg_csv_b1.FnLineTellsWhereEachRecordStarts'. -/
def fnLineTellsWhereEachRecordStartsCard : Claim7 := { stood := { row := fnLineTellsWhereEachRecordStartsRow, standIns := [], harness := (true, "b5a59dd1013acab10cdd9b91b6d536427784207bf5be395e8700732c8bcfe779"), looks := true }, told := true, laidByText := true, laidKinds := [.sentinel, .sentinel, .sentinel, .sentinel], laidTests := true, laidLooks := .later, goes := false }
def FnLineTellsWhereEachRecordStartsToldSaid : Prop := Claim7.holds Tryf.pinned (.plain (OpenSpec.ofChange fnLineTellsWhereEachRecordStartsSpec)) fnLineTellsWhereEachRecordStartsCard
/-- ITS FALSE NEIGHBOUR. Refute it at one input. -/
def FnLineTellsWhereEachRecordStartsToldWrongFalsely : Prop := Claim7.holds Tryf.pinned (.plain (OpenSpec.ofChange fnLineTellsWhereEachRecordStartsWrong)) fnLineTellsWhereEachRecordStartsCard

/-- THE TOLD AND TIED CARD OF 'zzlaws_pkg_csv_b1.FnReadLineHandsOutTheTextLineByLine'. -/
def fnReadLineHandsOutTheTextLineByLineCard : Claim7 := { stood := { row := fnReadLineHandsOutTheTextLineByLineRow, standIns := [], harness := (true, "b5a59dd1013acab10cdd9b91b6d536427784207bf5be395e8700732c8bcfe779"), looks := true }, told := true, laidByText := true, laidKinds := [.sentinel, .sentinel, .sentinel, .sentinel], laidTests := true, laidLooks := .later, goes := false }
def FnReadLineHandsOutTheTextLineByLineToldSaid : Prop := Claim7.holds Tryf.pinned (.plain (OpenSpec.ofChange fnReadLineHandsOutTheTextLineByLineSpec)) fnReadLineHandsOutTheTextLineByLineCard
/-- ITS FALSE NEIGHBOUR. Refute it at one input. -/
def FnReadLineHandsOutTheTextLineByLineToldWrongFalsely : Prop := Claim7.holds Tryf.pinned (.plain (OpenSpec.ofChange fnReadLineHandsOutTheTextLineByLineWrong)) fnReadLineHandsOutTheTextLineByLineCard

/-- THE TOLD AND TIED CARD OF 'zzlaws_pkg_csv_b1.FnReadLineCutsAtEveryLineFeed'. -/
def fnReadLineCutsAtEveryLineFeedCard : Claim7 := { stood := { row := fnReadLineCutsAtEveryLineFeedRow, standIns := [], harness := (true, "b5a59dd1013acab10cdd9b91b6d536427784207bf5be395e8700732c8bcfe779"), looks := true }, told := true, laidByText := true, laidKinds := [.sentinel, .sentinel, .sentinel, .sentinel], laidTests := true, laidLooks := .later, goes := false }
def FnReadLineCutsAtEveryLineFeedToldSaid : Prop := Claim7.holds Tryf.pinned (.plain (OpenSpec.ofChange fnReadLineCutsAtEveryLineFeedSpec)) fnReadLineCutsAtEveryLineFeedCard
/-- ITS FALSE NEIGHBOUR. Refute it at one input. -/
def FnReadLineCutsAtEveryLineFeedToldWrongFalsely : Prop := Claim7.holds Tryf.pinned (.plain (OpenSpec.ofChange fnReadLineCutsAtEveryLineFeedWrong)) fnReadLineCutsAtEveryLineFeedCard
end Rows
end Go.Proofs.Qxb6613956aFmt
