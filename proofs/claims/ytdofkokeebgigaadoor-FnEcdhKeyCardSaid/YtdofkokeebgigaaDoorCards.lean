/-
  DERIVED. GIVEN WITH THE SEED: THE CARDS: each row of YtdofkokeebgigaaDoorRows.lean that lists a variable, with what it lists TIED to the program's text (the seventh form; the later family's looks); each row that meets fmt, with fmt's text TOLD by the authors' own Lean function (tested against real Go, not proved from fmt's source: count such statements apart). THE CARD IS WHAT COUNTS. Prove the row's statement (the work); the ties are given (YtdofkokeebgigaaDoorTie.lean); close each card by the builder's one call (the guide's Derived/Test/ToyasCard.lean, 'card_holds'). Laid BY PROGRAM, IN A SANDBOX (cutbox-door.mjs). By AI agents, Wed Nov 11 2026. No macro, syntax, notation, axiom, sorry.
-/
import Derived.Test.YtdofkokeebgigaaDoorRows
import GoSem.ClaimSeven
namespace Go.Proofs.YtdofkokeebgigaaDoor
namespace Rows

/-- THE TIED CARD OF 'laws.FnEcdhKey'. -/
def fnEcdhKeyCard : Claim7 := { stood := { row := fnEcdhKeyRow, standIns := [], harness := (true, "d067db67409076a8d54883ba3f3bda74dc6ec9e745e69b6a6d35046a94229744"), looks := false }, kinds := [], alts := [], laidByText := true, laidKinds := [.sentinel], laidTests := true, laidLooks := .later }
def FnEcdhKeyCardSaid : Prop := Claim7.holds Tryd.pinned (.plain (OpenSpec.ofChange fnEcdhKeySpec)) fnEcdhKeyCard

/-- THE SECOND FORM's CARD OF 'laws.FnEcdhKey'. -/
def fnEcdhKeyUptoCard : Claim7 := { stood := { row := fnEcdhKeyUptoRow, standIns := [], harness := (true, "d067db67409076a8d54883ba3f3bda74dc6ec9e745e69b6a6d35046a94229744"), looks := false }, kinds := [], alts := [], laidByText := true, laidKinds := [.sentinel], laidTests := true, laidLooks := .later }
def FnEcdhKeyUptoCardSaid : Prop := Claim7.holds Tryd.pinned (.plain (OpenSpec.upto fnEcdhKeySpec)) fnEcdhKeyUptoCard
end Rows
end Go.Proofs.YtdofkokeebgigaaDoor
