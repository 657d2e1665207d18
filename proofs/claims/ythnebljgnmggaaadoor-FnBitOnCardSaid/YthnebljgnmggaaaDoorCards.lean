/-
  DERIVED. GIVEN WITH THE SEED: THE CARDS: each row of YthnebljgnmggaaaDoorRows.lean that lists a variable, with what it lists TIED to the program's text (the seventh form; the later family's looks); each row that meets fmt, with fmt's text TOLD by the authors' own Lean function (tested against real Go, not proved from fmt's source: count such statements apart). THE CARD IS WHAT COUNTS. Prove the row's statement (the work); the ties are given (YthnebljgnmggaaaDoorTie.lean); close each card by the builder's one call (the guide's Derived/Test/ToyasCard.lean, 'card_holds'). Laid BY PROGRAM, IN A SANDBOX (cutbox-door.mjs). By AI agents, Wed Nov 11 2026. No macro, syntax, notation, axiom, sorry.
-/
import Derived.Test.YthnebljgnmggaaaDoorRows
import GoSem.ClaimSeven
namespace Go.Proofs.YthnebljgnmggaaaDoor
namespace Rows

/-- THE TIED CARD OF 'laws.FnBitOn'. -/
def fnBitOnCard : Claim7 := { stood := { row := fnBitOnRow, standIns := [], harness := (true, "adb7851e680d7b6b59af78af3571839bc7973d1620388e27238b08a8bff00d54"), looks := false }, kinds := [], alts := [], laidByText := true, laidKinds := [.data, .data, .data, .data], laidTests := true, laidLooks := .later }
def FnBitOnCardSaid : Prop := Claim7.holds Tryd.pinned (.plain (OpenSpec.ofChange fnBitOnSpec)) fnBitOnCard

/-- THE SECOND FORM's CARD OF 'laws.FnBitOn'. -/
def fnBitOnUptoCard : Claim7 := { stood := { row := fnBitOnUptoRow, standIns := [], harness := (true, "adb7851e680d7b6b59af78af3571839bc7973d1620388e27238b08a8bff00d54"), looks := false }, kinds := [], alts := [], laidByText := true, laidKinds := [.data, .data, .data, .data], laidTests := true, laidLooks := .later }
def FnBitOnUptoCardSaid : Prop := Claim7.holds Tryd.pinned (.plain (OpenSpec.upto fnBitOnSpec)) fnBitOnUptoCard
end Rows
end Go.Proofs.YthnebljgnmggaaaDoor
