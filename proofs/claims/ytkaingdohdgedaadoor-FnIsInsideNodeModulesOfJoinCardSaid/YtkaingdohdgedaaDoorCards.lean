/-
  DERIVED. GIVEN WITH THE SEED: THE CARDS: each row of YtkaingdohdgedaaDoorRows.lean that lists a variable, with what it lists TIED to the program's text (the seventh form; the later family's looks); each row that meets fmt, with fmt's text TOLD by the authors' own Lean function (tested against real Go, not proved from fmt's source: count such statements apart). THE CARD IS WHAT COUNTS. Prove the row's statement (the work); the ties are given (YtkaingdohdgedaaDoorTie.lean); close each card by the builder's one call (the guide's Derived/Test/ToyasCard.lean, 'card_holds'). Laid BY PROGRAM, IN A SANDBOX (cutbox-door.mjs). By AI agents, Wed Nov 11 2026. No macro, syntax, notation, axiom, sorry.
-/
import Derived.Test.YtkaingdohdgedaaDoorRows
import GoSem.ClaimSeven
namespace Go.Proofs.YtkaingdohdgedaaDoor
namespace Rows

/-- THE TIED CARD OF 'n011_167.FnIsInsideNodeModulesOfJoin'. -/
def fnIsInsideNodeModulesOfJoinCard : Claim7 := { stood := { row := fnIsInsideNodeModulesOfJoinRow, standIns := [], harness := (true, "60789fa60dfa0b6f604707b4947b1cfd81cfc3c61a2276411b893d9b87e3d698"), looks := false }, kinds := [], alts := [], laidByText := true, laidKinds := [.data, .pinned], laidTests := true, laidLooks := .later }
def FnIsInsideNodeModulesOfJoinCardSaid : Prop := Claim7.holds Tryd.pinned (.plain (OpenSpec.ofChange fnIsInsideNodeModulesOfJoinSpec)) fnIsInsideNodeModulesOfJoinCard

/-- THE SECOND FORM's CARD OF 'n011_167.FnIsInsideNodeModulesOfJoin'. -/
def fnIsInsideNodeModulesOfJoinUptoCard : Claim7 := { stood := { row := fnIsInsideNodeModulesOfJoinUptoRow, standIns := [], harness := (true, "60789fa60dfa0b6f604707b4947b1cfd81cfc3c61a2276411b893d9b87e3d698"), looks := false }, kinds := [], alts := [], laidByText := true, laidKinds := [.data, .pinned], laidTests := true, laidLooks := .later }
def FnIsInsideNodeModulesOfJoinUptoCardSaid : Prop := Claim7.holds Tryd.pinned (.plain (OpenSpec.upto fnIsInsideNodeModulesOfJoinSpec)) fnIsInsideNodeModulesOfJoinUptoCard
end Rows
end Go.Proofs.YtkaingdohdgedaaDoor
