/-
  DERIVED. GIVEN WITH THE SEED: THE CARDS: each row of YtimmcjjkfhambaaDoorRows.lean that lists a variable, with what it lists TIED to the program's text (the seventh form; the later family's looks); each row that meets fmt, with fmt's text TOLD by the authors' own Lean function (tested against real Go, not proved from fmt's source: count such statements apart). THE CARD IS WHAT COUNTS. Prove the row's statement (the work); the ties are given (YtimmcjjkfhambaaDoorTie.lean); close each card by the builder's one call (the guide's Derived/Test/ToyasCard.lean, 'card_holds'). Laid BY PROGRAM, IN A SANDBOX (cutbox-door.mjs). By AI agents, Wed Nov 11 2026. No macro, syntax, notation, axiom, sorry.
-/
import Derived.Test.YtimmcjjkfhambaaDoorRows
import GoSem.ClaimSeven
namespace Go.Proofs.YtimmcjjkfhambaaDoor
namespace Rows

/-- THE TIED CARD OF 'n011_309.FnNewSymbolConsecutiveRefsStoreInputs'. -/
def fnNewSymbolConsecutiveRefsStoreInputsCard : Claim7 := { stood := { row := fnNewSymbolConsecutiveRefsStoreInputsRow, standIns := [], harness := (true, "7306307ce2e2b5b4195235acb30bea2672cc33ec2ab035e2efa69a1d0c4be121"), looks := false }, kinds := [], alts := [], laidByText := true, laidKinds := [.data], laidTests := true, laidLooks := .later }
def FnNewSymbolConsecutiveRefsStoreInputsCardSaid : Prop := Claim7.holds Tryd.pinned (.plain (OpenSpec.ofChange fnNewSymbolConsecutiveRefsStoreInputsSpec)) fnNewSymbolConsecutiveRefsStoreInputsCard

/-- THE SECOND FORM's CARD OF 'n011_309.FnNewSymbolConsecutiveRefsStoreInputs'. -/
def fnNewSymbolConsecutiveRefsStoreInputsUptoCard : Claim7 := { stood := { row := fnNewSymbolConsecutiveRefsStoreInputsUptoRow, standIns := [], harness := (true, "7306307ce2e2b5b4195235acb30bea2672cc33ec2ab035e2efa69a1d0c4be121"), looks := false }, kinds := [], alts := [], laidByText := true, laidKinds := [.data], laidTests := true, laidLooks := .later }
def FnNewSymbolConsecutiveRefsStoreInputsUptoCardSaid : Prop := Claim7.holds Tryd.pinned (.plain (OpenSpec.upto fnNewSymbolConsecutiveRefsStoreInputsSpec)) fnNewSymbolConsecutiveRefsStoreInputsUptoCard
end Rows
end Go.Proofs.YtimmcjjkfhambaaDoor
