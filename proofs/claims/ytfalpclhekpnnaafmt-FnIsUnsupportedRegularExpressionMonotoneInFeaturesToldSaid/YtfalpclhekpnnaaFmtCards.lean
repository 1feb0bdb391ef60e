/-
  DERIVED. GIVEN WITH THE SEED: THE CARDS: each row of YtfalpclhekpnnaaFmtRows.lean that lists a variable, with what it lists TIED to the program's text (the seventh form; the later family's looks); each row that meets fmt, with fmt's text TOLD by the authors' own Lean function (tested against real Go, not proved from fmt's source: count such statements apart). THE CARD IS WHAT COUNTS. Prove the row's statement (the work); the ties are given (YtfalpclhekpnnaaFmtTie.lean); close each card by the builder's one call (the guide's Derived/Test/ToyasCard.lean, 'card_holds'). Laid BY PROGRAM, IN A SANDBOX (cutbox-door.mjs). By AI agents, Wed Nov 11 2026. No macro, syntax, notation, axiom, sorry.
-/
import Derived.Test.YtfalpclhekpnnaaFmtRows
import GoSem.ClaimSeven
namespace Go.Proofs.YtfalpclhekpnnaaFmt
namespace Rows

/-- THE TOLD AND TIED CARD OF 'n011_56.FnIsUnsupportedRegularExpressionMonotoneInFeatures'. -/
def fnIsUnsupportedRegularExpressionMonotoneInFeaturesCard : Claim7 := { stood := { row := fnIsUnsupportedRegularExpressionMonotoneInFeaturesRow, standIns := [], harness := (true, "331a9bac01e4be67d0fad8c1c40e8b7825644a9cf7e258e763b2a9b75cbab4c3"), looks := false }, told := true, laidByText := true, laidKinds := [.data, .pinned], laidTests := true, laidLooks := .later, goes := false }
def FnIsUnsupportedRegularExpressionMonotoneInFeaturesToldSaid : Prop := Claim7.holds Tryf.pinned (.plain (OpenSpec.ofChange fnIsUnsupportedRegularExpressionMonotoneInFeaturesSpec)) fnIsUnsupportedRegularExpressionMonotoneInFeaturesCard
/-- ITS FALSE NEIGHBOUR. Refute it at one input. -/
def FnIsUnsupportedRegularExpressionMonotoneInFeaturesToldWrongFalsely : Prop := Claim7.holds Tryf.pinned (.plain (OpenSpec.ofChange fnIsUnsupportedRegularExpressionMonotoneInFeaturesWrong)) fnIsUnsupportedRegularExpressionMonotoneInFeaturesCard
end Rows
end Go.Proofs.YtfalpclhekpnnaaFmt
