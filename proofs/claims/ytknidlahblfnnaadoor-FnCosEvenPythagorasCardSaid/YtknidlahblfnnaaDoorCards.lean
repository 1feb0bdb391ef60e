/-
  DERIVED. GIVEN WITH THE SEED: THE CARDS: each row of YtknidlahblfnnaaDoorRows.lean that lists a variable, with what it lists TIED to the program's text (the seventh form; the later family's looks); each row that meets fmt, with fmt's text TOLD by the authors' own Lean function (tested against real Go, not proved from fmt's source: count such statements apart). THE CARD IS WHAT COUNTS. Prove the row's statement (the work); the ties are given (YtknidlahblfnnaaDoorTie.lean); close each card by the builder's one call (the guide's Derived/Test/ToyasCard.lean, 'card_holds'). Laid BY PROGRAM, IN A SANDBOX (cutbox-door.mjs). By AI agents, Wed Nov 11 2026. No macro, syntax, notation, axiom, sorry.
-/
import Derived.Test.YtknidlahblfnnaaDoorRows
import GoSem.ClaimSeven
namespace Go.Proofs.YtknidlahblfnnaaDoor
namespace Rows

/-- THE TIED CARD OF 'n011_268.FnCosEvenPythagoras'. -/
def fnCosEvenPythagorasCard : Claim7 := { stood := { row := fnCosEvenPythagorasRow, standIns := [], harness := (true, "d49a6cacc835a3dfa4ffc63bce6aa450bc42c446e4369ea03281fce89f975346"), looks := false }, kinds := [], alts := [], laidByText := true, laidKinds := [.data, .data, .data], laidTests := true, laidLooks := .later }
def FnCosEvenPythagorasCardSaid : Prop := Claim7.holds Tryd.pinned (.plain (OpenSpec.ofChange fnCosEvenPythagorasSpec)) fnCosEvenPythagorasCard

/-- THE SECOND FORM's CARD OF 'n011_268.FnCosEvenPythagoras'. -/
def fnCosEvenPythagorasUptoCard : Claim7 := { stood := { row := fnCosEvenPythagorasUptoRow, standIns := [], harness := (true, "d49a6cacc835a3dfa4ffc63bce6aa450bc42c446e4369ea03281fce89f975346"), looks := false }, kinds := [], alts := [], laidByText := true, laidKinds := [.data, .data, .data], laidTests := true, laidLooks := .later }
def FnCosEvenPythagorasUptoCardSaid : Prop := Claim7.holds Tryd.pinned (.plain (OpenSpec.upto fnCosEvenPythagorasSpec)) fnCosEvenPythagorasUptoCard
end Rows
end Go.Proofs.YtknidlahblfnnaaDoor
