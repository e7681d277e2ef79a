/-
  DERIVED. GIVEN WITH THE SEED: THE CARDS: each row of YtoopnllpocioiaaGreatFmtRows.lean that lists a variable, with what it lists TIED to the program's text (the seventh form; the later family's looks); each row that meets fmt, with fmt's text TOLD by the authors' own Lean function (tested against real Go, not proved from fmt's source: count such statements apart). THE CARD IS WHAT COUNTS. Prove the row's statement (the work); the ties are given (YtoopnllpocioiaaGreatFmtTie.lean); close each card by the builder's one call (the guide's Derived/Test/ToyasCard.lean, 'card_holds'). Laid BY PROGRAM, IN A SANDBOX (cutbox-door.mjs). By AI agents, Wed Nov 11 2026. No macro, syntax, notation, axiom, sorry.
-/
import Derived.Test.YtoopnllpocioiaaGreatFmtRows
import GoSem.ClaimSeven
namespace Go.Proofs.YtoopnllpocioiaaGreatFmt
namespace Rows

/-- THE TOLD AND TIED CARD OF 'n003_66.FnEmitTwoSegmentsExact'. -/
def fnEmitTwoSegmentsExactCard : Claim7 := { stood := { row := fnEmitTwoSegmentsExactRow, standIns := [], harness := (true, "fbf8a6b51d6ba5035987ed2b9f93f8f83e4e5bea24cf65e1a9e3ef6bfc92e79e"), looks := false }, told := true, laidByText := true, laidKinds := [.data, .listed, .data, .pinned, .pinned, .pinned], laidTests := true, laidLooks := .later, goes := false }
def FnEmitTwoSegmentsExactToldSaid : Prop := Claim7.holds Tryz.pinned (.plain (OpenSpec.ofChange fnEmitTwoSegmentsExactSpec)) fnEmitTwoSegmentsExactCard
/-- ITS FALSE NEIGHBOUR. Refute it at one input. -/
def FnEmitTwoSegmentsExactToldWrongFalsely : Prop := Claim7.holds Tryz.pinned (.plain (OpenSpec.ofChange fnEmitTwoSegmentsExactWrong)) fnEmitTwoSegmentsExactCard

/-- THE TOLD AND TIED CARD OF 'n003_66.FnEmitEOFExact'. -/
def fnEmitEOFExactCard : Claim7 := { stood := { row := fnEmitEOFExactRow, standIns := [], harness := (true, "fbf8a6b51d6ba5035987ed2b9f93f8f83e4e5bea24cf65e1a9e3ef6bfc92e79e"), looks := false }, told := true, laidByText := true, laidKinds := [.data, .listed, .data, .pinned, .pinned, .pinned], laidTests := true, laidLooks := .later, goes := false }
def FnEmitEOFExactToldSaid : Prop := Claim7.holds Tryz.pinned (.plain (OpenSpec.ofChange fnEmitEOFExactSpec)) fnEmitEOFExactCard
/-- ITS FALSE NEIGHBOUR. Refute it at one input. -/
def FnEmitEOFExactToldWrongFalsely : Prop := Claim7.holds Tryz.pinned (.plain (OpenSpec.ofChange fnEmitEOFExactWrong)) fnEmitEOFExactCard

/-- THE TOLD AND TIED CARD OF 'n003_66.FnSkipDropsPendingText'. -/
def fnSkipDropsPendingTextCard : Claim7 := { stood := { row := fnSkipDropsPendingTextRow, standIns := [], harness := (true, "fbf8a6b51d6ba5035987ed2b9f93f8f83e4e5bea24cf65e1a9e3ef6bfc92e79e"), looks := false }, told := true, laidByText := true, laidKinds := [.data, .listed, .data, .pinned, .pinned, .pinned], laidTests := true, laidLooks := .later, goes := false }
def FnSkipDropsPendingTextToldSaid : Prop := Claim7.holds Tryz.pinned (.plain (OpenSpec.ofChange fnSkipDropsPendingTextSpec)) fnSkipDropsPendingTextCard
/-- ITS FALSE NEIGHBOUR. Refute it at one input. -/
def FnSkipDropsPendingTextToldWrongFalsely : Prop := Claim7.holds Tryz.pinned (.plain (OpenSpec.ofChange fnSkipDropsPendingTextWrong)) fnSkipDropsPendingTextCard

/-- THE TOLD AND TIED CARD OF 'n003_66.FnEmitOneRuneTokensRebuildSource'. -/
def fnEmitOneRuneTokensRebuildSourceCard : Claim7 := { stood := { row := fnEmitOneRuneTokensRebuildSourceRow, standIns := [], harness := (true, "fbf8a6b51d6ba5035987ed2b9f93f8f83e4e5bea24cf65e1a9e3ef6bfc92e79e"), looks := false }, told := true, laidByText := true, laidKinds := [.data, .listed, .data, .pinned, .pinned, .pinned], laidTests := true, laidLooks := .later, goes := false }
def FnEmitOneRuneTokensRebuildSourceToldSaid : Prop := Claim7.holds Tryz.pinned (.plain (OpenSpec.ofChange fnEmitOneRuneTokensRebuildSourceSpec)) fnEmitOneRuneTokensRebuildSourceCard
/-- ITS FALSE NEIGHBOUR. Refute it at one input. -/
def FnEmitOneRuneTokensRebuildSourceToldWrongFalsely : Prop := Claim7.holds Tryz.pinned (.plain (OpenSpec.ofChange fnEmitOneRuneTokensRebuildSourceWrong)) fnEmitOneRuneTokensRebuildSourceCard

/-- THE TOLD AND TIED CARD OF 'n003_66.FnEmitValueExact'. -/
def fnEmitValueExactCard : Claim7 := { stood := { row := fnEmitValueExactRow, standIns := [], harness := (true, "fbf8a6b51d6ba5035987ed2b9f93f8f83e4e5bea24cf65e1a9e3ef6bfc92e79e"), looks := false }, told := true, laidByText := true, laidKinds := [.data, .listed, .data, .pinned, .pinned, .pinned], laidTests := true, laidLooks := .later, goes := false }
def FnEmitValueExactToldSaid : Prop := Claim7.holds Tryz.pinned (.plain (OpenSpec.ofChange fnEmitValueExactSpec)) fnEmitValueExactCard
/-- ITS FALSE NEIGHBOUR. Refute it at one input. -/
def FnEmitValueExactToldWrongFalsely : Prop := Claim7.holds Tryz.pinned (.plain (OpenSpec.ofChange fnEmitValueExactWrong)) fnEmitValueExactCard

/-- THE TOLD AND TIED CARD OF 'n003_66.FnEmitValueBackToBack'. -/
def fnEmitValueBackToBackCard : Claim7 := { stood := { row := fnEmitValueBackToBackRow, standIns := [], harness := (true, "fbf8a6b51d6ba5035987ed2b9f93f8f83e4e5bea24cf65e1a9e3ef6bfc92e79e"), looks := false }, told := true, laidByText := true, laidKinds := [.data, .listed, .data, .pinned, .pinned, .pinned], laidTests := true, laidLooks := .later, goes := false }
def FnEmitValueBackToBackToldSaid : Prop := Claim7.holds Tryz.pinned (.plain (OpenSpec.ofChange fnEmitValueBackToBackSpec)) fnEmitValueBackToBackCard
/-- ITS FALSE NEIGHBOUR. Refute it at one input. -/
def FnEmitValueBackToBackToldWrongFalsely : Prop := Claim7.holds Tryz.pinned (.plain (OpenSpec.ofChange fnEmitValueBackToBackWrong)) fnEmitValueBackToBackCard

/-- THE TOLD AND TIED CARD OF 'n003_66.FnEmitEOFRepeatStable'. -/
def fnEmitEOFRepeatStableCard : Claim7 := { stood := { row := fnEmitEOFRepeatStableRow, standIns := [], harness := (true, "fbf8a6b51d6ba5035987ed2b9f93f8f83e4e5bea24cf65e1a9e3ef6bfc92e79e"), looks := false }, told := true, laidByText := true, laidKinds := [.data, .listed, .data, .pinned, .pinned, .pinned], laidTests := true, laidLooks := .later, goes := false }
def FnEmitEOFRepeatStableToldSaid : Prop := Claim7.holds Tryz.pinned (.plain (OpenSpec.ofChange fnEmitEOFRepeatStableSpec)) fnEmitEOFRepeatStableCard
/-- ITS FALSE NEIGHBOUR. Refute it at one input. -/
def FnEmitEOFRepeatStableToldWrongFalsely : Prop := Claim7.holds Tryz.pinned (.plain (OpenSpec.ofChange fnEmitEOFRepeatStableWrong)) fnEmitEOFRepeatStableCard

/-- THE TOLD AND TIED CARD OF 'n003_66.FnSkipOnlyLastCounts'. -/
def fnSkipOnlyLastCountsCard : Claim7 := { stood := { row := fnSkipOnlyLastCountsRow, standIns := [], harness := (true, "fbf8a6b51d6ba5035987ed2b9f93f8f83e4e5bea24cf65e1a9e3ef6bfc92e79e"), looks := false }, told := true, laidByText := true, laidKinds := [.data, .listed, .data, .pinned, .pinned, .pinned], laidTests := true, laidLooks := .later, goes := false }
def FnSkipOnlyLastCountsToldSaid : Prop := Claim7.holds Tryz.pinned (.plain (OpenSpec.ofChange fnSkipOnlyLastCountsSpec)) fnSkipOnlyLastCountsCard
/-- ITS FALSE NEIGHBOUR. Refute it at one input. -/
def FnSkipOnlyLastCountsToldWrongFalsely : Prop := Claim7.holds Tryz.pinned (.plain (OpenSpec.ofChange fnSkipOnlyLastCountsWrong)) fnSkipOnlyLastCountsCard
end Rows
end Go.Proofs.YtoopnllpocioiaaGreatFmt
