/-
  DERIVED. GIVEN WITH THE SEED: THE CARDS: each row of YtacekiapcipidaaDoorRows.lean that lists a variable, with what it lists TIED to the program's text (the seventh form; the later family's looks); each row that meets fmt, with fmt's text TOLD by the authors' own Lean function (tested against real Go, not proved from fmt's source: count such statements apart). THE CARD IS WHAT COUNTS. Prove the row's statement (the work); the ties are given (YtacekiapcipidaaDoorTie.lean); close each card by the builder's one call (the guide's Derived/Test/ToyasCard.lean, 'card_holds'). Laid BY PROGRAM, IN A SANDBOX (cutbox-door.mjs). By AI agents, Wed Nov 11 2026. No macro, syntax, notation, axiom, sorry.
-/
import Derived.Test.YtacekiapcipidaaDoorRows
import GoSem.ClaimSeven
namespace Go.Proofs.YtacekiapcipidaaDoor
namespace Rows

/-- THE TIED CARD OF 'n011_239.FnKeepExprSymbolNameSpec'. -/
def fnKeepExprSymbolNameSpecCard : Claim7 := { stood := { row := fnKeepExprSymbolNameSpecRow, standIns := [], harness := (true, "1c21149f4d71d704f1b36b49f8ec05b984cc8496d147533ae43598faf670bc87"), looks := true }, kinds := [], alts := [], laidByText := true, laidKinds := [.data], laidTests := true, laidLooks := .later }
def FnKeepExprSymbolNameSpecCardSaid : Prop := Claim7.holds Tryd.pinned (.plain (OpenSpec.ofChange fnKeepExprSymbolNameSpecSpec)) fnKeepExprSymbolNameSpecCard

/-- THE SECOND FORM's CARD OF 'n011_239.FnKeepExprSymbolNameSpec'. -/
def fnKeepExprSymbolNameSpecUptoCard : Claim7 := { stood := { row := fnKeepExprSymbolNameSpecUptoRow, standIns := [], harness := (true, "1c21149f4d71d704f1b36b49f8ec05b984cc8496d147533ae43598faf670bc87"), looks := true }, kinds := [], alts := [], laidByText := true, laidKinds := [.data], laidTests := true, laidLooks := .later }
def FnKeepExprSymbolNameSpecUptoCardSaid : Prop := Claim7.holds Tryd.pinned (.plain (OpenSpec.upto fnKeepExprSymbolNameSpecSpec)) fnKeepExprSymbolNameSpecUptoCard
end Rows
end Go.Proofs.YtacekiapcipidaaDoor
