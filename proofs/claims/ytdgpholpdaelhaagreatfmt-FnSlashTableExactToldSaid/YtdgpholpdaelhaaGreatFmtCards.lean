/-
  DERIVED. GIVEN WITH THE SEED: THE CARDS: each row of YtdgpholpdaelhaaGreatFmtRows.lean that lists a variable, with what it lists TIED to the program's text (the seventh form; the later family's looks); each row that meets fmt, with fmt's text TOLD by the authors' own Lean function (tested against real Go, not proved from fmt's source: count such statements apart). THE CARD IS WHAT COUNTS. Prove the row's statement (the work); the ties are given (YtdgpholpdaelhaaGreatFmtTie.lean); close each card by the builder's one call (the guide's Derived/Test/ToyasCard.lean, 'card_holds'). Laid BY PROGRAM, IN A SANDBOX (cutbox-door.mjs). By AI agents, Wed Nov 11 2026. No macro, syntax, notation, axiom, sorry.
-/
import Derived.Test.YtdgpholpdaelhaaGreatFmtRows
import GoSem.ClaimSeven
namespace Go.Proofs.YtdgpholpdaelhaaGreatFmt
namespace Rows

/-- THE TOLD AND TIED CARD OF 'n003_22.FnSlashTableExact'. -/
def fnSlashTableExactCard : Claim7 := { stood := { row := fnSlashTableExactRow, standIns := [], harness := (true, "eeff21ab11bfc990ad9ceb5b7d66000a78534bb6b23cdd89d461afa4e30d0dd2"), looks := true }, told := true, laidByText := true, laidKinds := [.data, .listed, .data, .pinned, .pinned, .pinned], laidTests := true, laidLooks := .later, goes := false }
def FnSlashTableExactToldSaid : Prop := Claim7.holds Tryz.pinned (.plain (OpenSpec.ofChange fnSlashTableExactSpec)) fnSlashTableExactCard
/-- ITS FALSE NEIGHBOUR. Refute it at one input. -/
def FnSlashTableExactToldWrongFalsely : Prop := Claim7.holds Tryz.pinned (.plain (OpenSpec.ofChange fnSlashTableExactWrong)) fnSlashTableExactCard

/-- THE TOLD AND TIED CARD OF 'n003_22.FnMultiLineCommentSkipped'. -/
def fnMultiLineCommentSkippedCard : Claim7 := { stood := { row := fnMultiLineCommentSkippedRow, standIns := [], harness := (true, "eeff21ab11bfc990ad9ceb5b7d66000a78534bb6b23cdd89d461afa4e30d0dd2"), looks := true }, told := true, laidByText := true, laidKinds := [.data, .listed, .data, .pinned, .pinned, .pinned], laidTests := true, laidLooks := .later, goes := false }
def FnMultiLineCommentSkippedToldSaid : Prop := Claim7.holds Tryz.pinned (.plain (OpenSpec.ofChange fnMultiLineCommentSkippedSpec)) fnMultiLineCommentSkippedCard
/-- ITS FALSE NEIGHBOUR. Refute it at one input. -/
def FnMultiLineCommentSkippedToldWrongFalsely : Prop := Claim7.holds Tryz.pinned (.plain (OpenSpec.ofChange fnMultiLineCommentSkippedWrong)) fnMultiLineCommentSkippedCard

/-- THE TOLD AND TIED CARD OF 'n003_22.FnSingleLineCommentEndsAtNewline'. -/
def fnSingleLineCommentEndsAtNewlineCard : Claim7 := { stood := { row := fnSingleLineCommentEndsAtNewlineRow, standIns := [], harness := (true, "eeff21ab11bfc990ad9ceb5b7d66000a78534bb6b23cdd89d461afa4e30d0dd2"), looks := true }, told := true, laidByText := true, laidKinds := [.data, .listed, .data, .pinned, .pinned, .pinned], laidTests := true, laidLooks := .later, goes := false }
def FnSingleLineCommentEndsAtNewlineToldSaid : Prop := Claim7.holds Tryz.pinned (.plain (OpenSpec.ofChange fnSingleLineCommentEndsAtNewlineSpec)) fnSingleLineCommentEndsAtNewlineCard
/-- ITS FALSE NEIGHBOUR. Refute it at one input. -/
def FnSingleLineCommentEndsAtNewlineToldWrongFalsely : Prop := Claim7.holds Tryz.pinned (.plain (OpenSpec.ofChange fnSingleLineCommentEndsAtNewlineWrong)) fnSingleLineCommentEndsAtNewlineCard

/-- THE TOLD AND TIED CARD OF 'n003_22.FnQuestionMarkPairsExact'. -/
def fnQuestionMarkPairsExactCard : Claim7 := { stood := { row := fnQuestionMarkPairsExactRow, standIns := [], harness := (true, "eeff21ab11bfc990ad9ceb5b7d66000a78534bb6b23cdd89d461afa4e30d0dd2"), looks := true }, told := true, laidByText := true, laidKinds := [.data, .listed, .data, .pinned, .pinned, .pinned], laidTests := true, laidLooks := .later, goes := false }
def FnQuestionMarkPairsExactToldSaid : Prop := Claim7.holds Tryz.pinned (.plain (OpenSpec.ofChange fnQuestionMarkPairsExactSpec)) fnQuestionMarkPairsExactCard
/-- ITS FALSE NEIGHBOUR. Refute it at one input. -/
def FnQuestionMarkPairsExactToldWrongFalsely : Prop := Claim7.holds Tryz.pinned (.plain (OpenSpec.ofChange fnQuestionMarkPairsExactWrong)) fnQuestionMarkPairsExactCard
end Rows
end Go.Proofs.YtdgpholpdaelhaaGreatFmt
