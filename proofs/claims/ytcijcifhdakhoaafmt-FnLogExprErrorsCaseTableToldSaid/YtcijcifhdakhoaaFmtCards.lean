/-
  DERIVED. GIVEN WITH THE SEED: THE CARDS: each row of YtcijcifhdakhoaaFmtRows.lean that lists a variable, with what it lists TIED to the program's text (the seventh form; the later family's looks); each row that meets fmt, with fmt's text TOLD by the authors' own Lean function (tested against real Go, not proved from fmt's source: count such statements apart). THE CARD IS WHAT COUNTS. Prove the row's statement (the work); the ties are given (YtcijcifhdakhoaaFmtTie.lean); close each card by the builder's one call (the guide's Derived/Test/ToyasCard.lean, 'card_holds'). Laid BY PROGRAM, IN A SANDBOX (cutbox-door.mjs). By AI agents, Wed Nov 11 2026. No macro, syntax, notation, axiom, sorry.
-/
import Derived.Test.YtcijcifhdakhoaaFmtRows
import GoSem.ClaimSeven
namespace Go.Proofs.YtcijcifhdakhoaaFmt
namespace Rows

/-- THE TOLD AND TIED CARD OF 'n011_55.FnLogExprErrorsCaseTable'. -/
def fnLogExprErrorsCaseTableCard : Claim7 := { stood := { row := fnLogExprErrorsCaseTableRow, standIns := [], harness := (true, "fc05138493430bce5bc0281a2b572032c520ccd67ce29b50f37c0d857c50ad6d"), looks := false }, told := true, laidByText := true, laidKinds := [.data, .pinned], laidTests := true, laidLooks := .later, goes := false }
def FnLogExprErrorsCaseTableToldSaid : Prop := Claim7.holds Tryf.pinned (.plain (OpenSpec.ofChange fnLogExprErrorsCaseTableSpec)) fnLogExprErrorsCaseTableCard
/-- ITS FALSE NEIGHBOUR. Refute it at one input. -/
def FnLogExprErrorsCaseTableToldWrongFalsely : Prop := Claim7.holds Tryf.pinned (.plain (OpenSpec.ofChange fnLogExprErrorsCaseTableWrong)) fnLogExprErrorsCaseTableCard
end Rows
end Go.Proofs.YtcijcifhdakhoaaFmt
