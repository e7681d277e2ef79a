/-
  DERIVED. GIVEN WITH THE SEED: THE CARDS: each row of YteicfaehbndlcaaFmtRows.lean that lists a variable, with what it lists TIED to the program's text (the seventh form; the later family's looks); each row that meets fmt, with fmt's text TOLD by the authors' own Lean function (tested against real Go, not proved from fmt's source: count such statements apart). THE CARD IS WHAT COUNTS. Prove the row's statement (the work); the ties are given (YteicfaehbndlcaaFmtTie.lean); close each card by the builder's one call (the guide's Derived/Test/ToyasCard.lean, 'card_holds'). Laid BY PROGRAM, IN A SANDBOX (cutbox-door.mjs). By AI agents, Wed Nov 11 2026. No macro, syntax, notation, axiom, sorry.
-/
import Derived.Test.YteicfaehbndlcaaFmtRows
import GoSem.ClaimSeven
namespace Go.Proofs.YteicfaehbndlcaaFmt
namespace Rows

/-- THE TOLD AND TIED CARD OF 'n003_75.FnSkipSpacesExact'. -/
def fnSkipSpacesExactCard : Claim7 := { stood := { row := fnSkipSpacesExactRow, standIns := [], harness := (true, "f509aded1855a3e49d72a00ca6d7cf17f99442855628074191209c48f54f977b"), looks := false }, told := true, laidByText := true, laidKinds := [.data, .listed, .data, .pinned, .pinned, .pinned], laidTests := true, laidLooks := .later, goes := false }
def FnSkipSpacesExactToldSaid : Prop := Claim7.holds Tryf.pinned (.plain (OpenSpec.ofChange fnSkipSpacesExactSpec)) fnSkipSpacesExactCard
/-- ITS FALSE NEIGHBOUR. Refute it at one input. -/
def FnSkipSpacesExactToldWrongFalsely : Prop := Claim7.holds Tryf.pinned (.plain (OpenSpec.ofChange fnSkipSpacesExactWrong)) fnSkipSpacesExactCard

/-- THE TOLD AND TIED CARD OF 'n003_75.FnWordIsSourceSlice'. -/
def fnWordIsSourceSliceCard : Claim7 := { stood := { row := fnWordIsSourceSliceRow, standIns := [], harness := (true, "f509aded1855a3e49d72a00ca6d7cf17f99442855628074191209c48f54f977b"), looks := false }, told := true, laidByText := true, laidKinds := [.data, .listed, .data, .pinned, .pinned, .pinned], laidTests := true, laidLooks := .later, goes := false }
def FnWordIsSourceSliceToldSaid : Prop := Claim7.holds Tryf.pinned (.plain (OpenSpec.ofChange fnWordIsSourceSliceSpec)) fnWordIsSourceSliceCard
/-- ITS FALSE NEIGHBOUR. Refute it at one input. -/
def FnWordIsSourceSliceToldWrongFalsely : Prop := Claim7.holds Tryf.pinned (.plain (OpenSpec.ofChange fnWordIsSourceSliceWrong)) fnWordIsSourceSliceCard

/-- THE TOLD AND TIED CARD OF 'n003_75.FnAcceptRunIdempotent'. -/
def fnAcceptRunIdempotentCard : Claim7 := { stood := { row := fnAcceptRunIdempotentRow, standIns := [], harness := (true, "f509aded1855a3e49d72a00ca6d7cf17f99442855628074191209c48f54f977b"), looks := false }, told := true, laidByText := true, laidKinds := [.data, .listed, .data, .pinned, .pinned, .pinned], laidTests := true, laidLooks := .later, goes := false }
def FnAcceptRunIdempotentToldSaid : Prop := Claim7.holds Tryf.pinned (.plain (OpenSpec.ofChange fnAcceptRunIdempotentSpec)) fnAcceptRunIdempotentCard
/-- ITS FALSE NEIGHBOUR. Refute it at one input. -/
def FnAcceptRunIdempotentToldWrongFalsely : Prop := Claim7.holds Tryf.pinned (.plain (OpenSpec.ofChange fnAcceptRunIdempotentWrong)) fnAcceptRunIdempotentCard

/-- THE TOLD AND TIED CARD OF 'n003_75.FnSkipSpacesIdempotent'. -/
def fnSkipSpacesIdempotentCard : Claim7 := { stood := { row := fnSkipSpacesIdempotentRow, standIns := [], harness := (true, "f509aded1855a3e49d72a00ca6d7cf17f99442855628074191209c48f54f977b"), looks := false }, told := true, laidByText := true, laidKinds := [.data, .listed, .data, .pinned, .pinned, .pinned], laidTests := true, laidLooks := .later, goes := false }
def FnSkipSpacesIdempotentToldSaid : Prop := Claim7.holds Tryf.pinned (.plain (OpenSpec.ofChange fnSkipSpacesIdempotentSpec)) fnSkipSpacesIdempotentCard
/-- ITS FALSE NEIGHBOUR. Refute it at one input. -/
def FnSkipSpacesIdempotentToldWrongFalsely : Prop := Claim7.holds Tryf.pinned (.plain (OpenSpec.ofChange fnSkipSpacesIdempotentWrong)) fnSkipSpacesIdempotentCard

/-- THE TOLD AND TIED CARD OF 'n003_75.FnAcceptRunExact'. -/
def fnAcceptRunExactCard : Claim7 := { stood := { row := fnAcceptRunExactRow, standIns := [], harness := (true, "f509aded1855a3e49d72a00ca6d7cf17f99442855628074191209c48f54f977b"), looks := false }, told := true, laidByText := true, laidKinds := [.data, .listed, .data, .pinned, .pinned, .pinned], laidTests := true, laidLooks := .later, goes := false }
def FnAcceptRunExactToldSaid : Prop := Claim7.holds Tryf.pinned (.plain (OpenSpec.ofChange fnAcceptRunExactSpec)) fnAcceptRunExactCard
/-- ITS FALSE NEIGHBOUR. Refute it at one input. -/
def FnAcceptRunExactToldWrongFalsely : Prop := Claim7.holds Tryf.pinned (.plain (OpenSpec.ofChange fnAcceptRunExactWrong)) fnAcceptRunExactCard
end Rows
end Go.Proofs.YteicfaehbndlcaaFmt
