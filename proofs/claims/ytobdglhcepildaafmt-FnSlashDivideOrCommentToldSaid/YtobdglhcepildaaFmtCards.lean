/-
  DERIVED. GIVEN WITH THE SEED: THE CARDS: each row of YtobdglhcepildaaFmtRows.lean that lists a variable, with what it lists TIED to the program's text (the seventh form; the later family's looks); each row that meets fmt, with fmt's text TOLD by the authors' own Lean function (tested against real Go, not proved from fmt's source: count such statements apart). THE CARD IS WHAT COUNTS. Prove the row's statement (the work); the ties are given (YtobdglhcepildaaFmtTie.lean); close each card by the builder's one call (the guide's Derived/Test/ToyasCard.lean, 'card_holds'). Laid BY PROGRAM, IN A SANDBOX (cutbox-door.mjs). By AI agents, Wed Nov 11 2026. No macro, syntax, notation, axiom, sorry.
-/
import Derived.Test.YtobdglhcepildaaFmtRows
import GoSem.ClaimSeven
namespace Go.Proofs.YtobdglhcepildaaFmt
namespace Rows

/-- THE TOLD AND TIED CARD OF 'n003_22.FnMultiLineCommentUnclosedRefused'. -/
def fnMultiLineCommentUnclosedRefusedCard : Claim7 := { stood := { row := fnMultiLineCommentUnclosedRefusedRow, standIns := [], harness := (true, "d773ac2e0e54b0ba06579cbb157679ed6e05b0d5eddbfdf6b3e489732c3c3765"), looks := true }, told := true, laidByText := true, laidKinds := [.data, .listed, .data, .pinned, .pinned, .pinned], laidTests := true, laidLooks := .later, goes := false }
def FnMultiLineCommentUnclosedRefusedToldSaid : Prop := Claim7.holds Tryf.pinned (.plain (OpenSpec.ofChange fnMultiLineCommentUnclosedRefusedSpec)) fnMultiLineCommentUnclosedRefusedCard
/-- ITS FALSE NEIGHBOUR. Refute it at one input. -/
def FnMultiLineCommentUnclosedRefusedToldWrongFalsely : Prop := Claim7.holds Tryf.pinned (.plain (OpenSpec.ofChange fnMultiLineCommentUnclosedRefusedWrong)) fnMultiLineCommentUnclosedRefusedCard

/-- THE TOLD AND TIED CARD OF 'n003_22.FnQuestionMarkChainBeforeNumber'. -/
def fnQuestionMarkChainBeforeNumberCard : Claim7 := { stood := { row := fnQuestionMarkChainBeforeNumberRow, standIns := [], harness := (true, "d773ac2e0e54b0ba06579cbb157679ed6e05b0d5eddbfdf6b3e489732c3c3765"), looks := true }, told := true, laidByText := true, laidKinds := [.data, .listed, .data, .pinned, .pinned, .pinned], laidTests := true, laidLooks := .later, goes := false }
def FnQuestionMarkChainBeforeNumberToldSaid : Prop := Claim7.holds Tryf.pinned (.plain (OpenSpec.ofChange fnQuestionMarkChainBeforeNumberSpec)) fnQuestionMarkChainBeforeNumberCard
/-- ITS FALSE NEIGHBOUR. Refute it at one input. -/
def FnQuestionMarkChainBeforeNumberToldWrongFalsely : Prop := Claim7.holds Tryf.pinned (.plain (OpenSpec.ofChange fnQuestionMarkChainBeforeNumberWrong)) fnQuestionMarkChainBeforeNumberCard

/-- THE TOLD AND TIED CARD OF 'n003_22.FnSlashDivideOrComment'. -/
def fnSlashDivideOrCommentCard : Claim7 := { stood := { row := fnSlashDivideOrCommentRow, standIns := [], harness := (true, "d773ac2e0e54b0ba06579cbb157679ed6e05b0d5eddbfdf6b3e489732c3c3765"), looks := true }, told := true, laidByText := true, laidKinds := [.data, .listed, .data, .pinned, .pinned, .pinned], laidTests := true, laidLooks := .later, goes := false }
def FnSlashDivideOrCommentToldSaid : Prop := Claim7.holds Tryf.pinned (.plain (OpenSpec.ofChange fnSlashDivideOrCommentSpec)) fnSlashDivideOrCommentCard
/-- ITS FALSE NEIGHBOUR. Refute it at one input. -/
def FnSlashDivideOrCommentToldWrongFalsely : Prop := Claim7.holds Tryf.pinned (.plain (OpenSpec.ofChange fnSlashDivideOrCommentWrong)) fnSlashDivideOrCommentCard
end Rows
end Go.Proofs.YtobdglhcepildaaFmt
