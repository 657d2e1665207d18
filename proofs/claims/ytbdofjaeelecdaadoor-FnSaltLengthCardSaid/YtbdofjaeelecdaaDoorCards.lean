/-
  DERIVED. GIVEN WITH THE SEED: THE CARDS: each row of YtbdofjaeelecdaaDoorRows.lean that lists a variable, with what it lists TIED to the program's text (the seventh form; the later family's looks); each row that meets fmt, with fmt's text TOLD by the authors' own Lean function (tested against real Go, not proved from fmt's source: count such statements apart). THE CARD IS WHAT COUNTS. Prove the row's statement (the work); the ties are given (YtbdofjaeelecdaaDoorTie.lean); close each card by the builder's one call (the guide's Derived/Test/ToyasCard.lean, 'card_holds'). Laid BY PROGRAM, IN A SANDBOX (cutbox-door.mjs). By AI agents, Wed Nov 11 2026. No macro, syntax, notation, axiom, sorry.
-/
import Derived.Test.YtbdofjaeelecdaaDoorRows
import GoSem.ClaimSeven
namespace Go.Proofs.YtbdofjaeelecdaaDoor
namespace Rows

/-- THE TIED CARD OF 'laws.FnSaltLength'. -/
def fnSaltLengthCard : Claim7 := { stood := { row := fnSaltLengthRow, standIns := [], harness := (true, "d6b995d4af39ce6ca9fe9fd10320ad681d0f43b463119486ed253f9fe5dd794b"), looks := true }, kinds := [], alts := [], laidByText := true, laidKinds := [.sentinel, .sentinel], laidTests := true, laidLooks := .later }
def FnSaltLengthCardSaid : Prop := Claim7.holds Tryd.pinned (.plain (OpenSpec.ofChange fnSaltLengthSpec)) fnSaltLengthCard

/-- THE SECOND FORM's CARD OF 'laws.FnSaltLength'. -/
def fnSaltLengthUptoCard : Claim7 := { stood := { row := fnSaltLengthUptoRow, standIns := [], harness := (true, "d6b995d4af39ce6ca9fe9fd10320ad681d0f43b463119486ed253f9fe5dd794b"), looks := true }, kinds := [], alts := [], laidByText := true, laidKinds := [.sentinel, .sentinel], laidTests := true, laidLooks := .later }
def FnSaltLengthUptoCardSaid : Prop := Claim7.holds Tryd.pinned (.plain (OpenSpec.upto fnSaltLengthSpec)) fnSaltLengthUptoCard
end Rows
end Go.Proofs.YtbdofjaeelecdaaDoor
