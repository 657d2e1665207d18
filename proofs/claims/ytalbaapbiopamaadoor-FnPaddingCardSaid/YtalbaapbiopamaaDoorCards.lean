/-
  DERIVED. GIVEN WITH THE SEED: THE CARDS: each row of YtalbaapbiopamaaDoorRows.lean that lists a variable, with what it lists TIED to the program's text (the seventh form; the later family's looks); each row that meets fmt, with fmt's text TOLD by the authors' own Lean function (tested against real Go, not proved from fmt's source: count such statements apart). THE CARD IS WHAT COUNTS. Prove the row's statement (the work); the ties are given (YtalbaapbiopamaaDoorTie.lean); close each card by the builder's one call (the guide's Derived/Test/ToyasCard.lean, 'card_holds'). Laid BY PROGRAM, IN A SANDBOX (cutbox-door.mjs). By AI agents, Wed Nov 11 2026. No macro, syntax, notation, axiom, sorry.
-/
import Derived.Test.YtalbaapbiopamaaDoorRows
import GoSem.ClaimSeven
namespace Go.Proofs.YtalbaapbiopamaaDoor
namespace Rows

/-- THE TIED CARD OF 'laws.FnPadding'. -/
def fnPaddingCard : Claim7 := { stood := { row := fnPaddingRow, standIns := [], harness := (true, "cddfec036e9d3141c402289ed14035548f805b20457e3e69087302823edb3272"), looks := true }, kinds := [], alts := [], laidByText := true, laidKinds := [.sentinel, .sentinel, .sentinel, .sentinel], laidTests := true, laidLooks := .later }
def FnPaddingCardSaid : Prop := Claim7.holds Tryd.pinned (.plain (OpenSpec.ofChange fnPaddingSpec)) fnPaddingCard

/-- THE SECOND FORM's CARD OF 'laws.FnPadding'. -/
def fnPaddingUptoCard : Claim7 := { stood := { row := fnPaddingUptoRow, standIns := [], harness := (true, "cddfec036e9d3141c402289ed14035548f805b20457e3e69087302823edb3272"), looks := true }, kinds := [], alts := [], laidByText := true, laidKinds := [.sentinel, .sentinel, .sentinel, .sentinel], laidTests := true, laidLooks := .later }
def FnPaddingUptoCardSaid : Prop := Claim7.holds Tryd.pinned (.plain (OpenSpec.upto fnPaddingSpec)) fnPaddingUptoCard
end Rows
end Go.Proofs.YtalbaapbiopamaaDoor
