/-
  DERIVED. GIVEN WITH THE SEED: THE CARDS: each row of YtgeijelkojgapaaDoorRows.lean that lists a variable, with what it lists TIED to the program's text (the seventh form; the later family's looks); each row that meets fmt, with fmt's text TOLD by the authors' own Lean function (tested against real Go, not proved from fmt's source: count such statements apart). THE CARD IS WHAT COUNTS. Prove the row's statement (the work); the ties are given (YtgeijelkojgapaaDoorTie.lean); close each card by the builder's one call (the guide's Derived/Test/ToyasCard.lean, 'card_holds'). Laid BY PROGRAM, IN A SANDBOX (cutbox-door.mjs). By AI agents, Wed Nov 11 2026. No macro, syntax, notation, axiom, sorry.
-/
import Derived.Test.YtgeijelkojgapaaDoorRows
import GoSem.ClaimSeven
namespace Go.Proofs.YtgeijelkojgapaaDoor
namespace Rows

/-- THE TIED CARD OF 'n011_81.FnPercentDataURLDecodesBackAndIsURLSafe'. -/
def fnPercentDataURLDecodesBackAndIsURLSafeCard : Claim7 := { stood := { row := fnPercentDataURLDecodesBackAndIsURLSafeRow, standIns := [], harness := (true, "52327599ec7c9b2b24f5e10079d362d870955153fd11b9958c1e25398a3714be"), looks := false }, kinds := [], alts := [], laidByText := true, laidKinds := [.data, .pinned], laidTests := true, laidLooks := .later }
def FnPercentDataURLDecodesBackAndIsURLSafeCardSaid : Prop := Claim7.holds Tryd.pinned (.plain (OpenSpec.ofChange fnPercentDataURLDecodesBackAndIsURLSafeSpec)) fnPercentDataURLDecodesBackAndIsURLSafeCard

/-- THE SECOND FORM's CARD OF 'n011_81.FnPercentDataURLDecodesBackAndIsURLSafe'. -/
def fnPercentDataURLDecodesBackAndIsURLSafeUptoCard : Claim7 := { stood := { row := fnPercentDataURLDecodesBackAndIsURLSafeUptoRow, standIns := [], harness := (true, "52327599ec7c9b2b24f5e10079d362d870955153fd11b9958c1e25398a3714be"), looks := false }, kinds := [], alts := [], laidByText := true, laidKinds := [.data, .pinned], laidTests := true, laidLooks := .later }
def FnPercentDataURLDecodesBackAndIsURLSafeUptoCardSaid : Prop := Claim7.holds Tryd.pinned (.plain (OpenSpec.upto fnPercentDataURLDecodesBackAndIsURLSafeSpec)) fnPercentDataURLDecodesBackAndIsURLSafeUptoCard
end Rows
end Go.Proofs.YtgeijelkojgapaaDoor
