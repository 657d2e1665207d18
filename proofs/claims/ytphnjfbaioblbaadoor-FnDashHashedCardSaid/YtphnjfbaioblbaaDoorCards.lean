/-
  DERIVED. GIVEN WITH THE SEED: THE CARDS: each row of YtphnjfbaioblbaaDoorRows.lean that lists a variable, with what it lists TIED to the program's text (the seventh form; the later family's looks); each row that meets fmt, with fmt's text TOLD by the authors' own Lean function (tested against real Go, not proved from fmt's source: count such statements apart). THE CARD IS WHAT COUNTS. Prove the row's statement (the work); the ties are given (YtphnjfbaioblbaaDoorTie.lean); close each card by the builder's one call (the guide's Derived/Test/ToyasCard.lean, 'card_holds'). Laid BY PROGRAM, IN A SANDBOX (cutbox-door.mjs). By AI agents, Wed Nov 11 2026. No macro, syntax, notation, axiom, sorry.
-/
import Derived.Test.YtphnjfbaioblbaaDoorRows
import GoSem.ClaimSeven
namespace Go.Proofs.YtphnjfbaioblbaaDoor
namespace Rows

/-- THE TIED CARD OF 'laws.FnDashHashed'. -/
def fnDashHashedCard : Claim7 := { stood := { row := fnDashHashedRow, standIns := [], harness := (true, "07f1713490af00b9edd8fc0734c3160f5dee6b23669cf347e06dce7057d5b783"), looks := true }, kinds := [], alts := [], laidByText := true, laidKinds := [.sentinel], laidTests := true, laidLooks := .later }
def FnDashHashedCardSaid : Prop := Claim7.holds Tryd.pinned (.plain (OpenSpec.ofChange fnDashHashedSpec)) fnDashHashedCard

/-- THE SECOND FORM's CARD OF 'laws.FnDashHashed'. -/
def fnDashHashedUptoCard : Claim7 := { stood := { row := fnDashHashedUptoRow, standIns := [], harness := (true, "07f1713490af00b9edd8fc0734c3160f5dee6b23669cf347e06dce7057d5b783"), looks := true }, kinds := [], alts := [], laidByText := true, laidKinds := [.sentinel], laidTests := true, laidLooks := .later }
def FnDashHashedUptoCardSaid : Prop := Claim7.holds Tryd.pinned (.plain (OpenSpec.upto fnDashHashedSpec)) fnDashHashedUptoCard
end Rows
end Go.Proofs.YtphnjfbaioblbaaDoor
