/-
  DERIVED. GIVEN WITH THE SEED: THE CARDS: each row of YthambncffcphkaaDoorRows.lean that lists a variable, with what it lists TIED to the program's text (the seventh form; the later family's looks); each row that meets fmt, with fmt's text TOLD by the authors' own Lean function (tested against real Go, not proved from fmt's source: count such statements apart). THE CARD IS WHAT COUNTS. Prove the row's statement (the work); the ties are given (YthambncffcphkaaDoorTie.lean); close each card by the builder's one call (the guide's Derived/Test/ToyasCard.lean, 'card_holds'). Laid BY PROGRAM, IN A SANDBOX (cutbox-door.mjs). By AI agents, Wed Nov 11 2026. No macro, syntax, notation, axiom, sorry.
-/
import Derived.Test.YthambncffcphkaaDoorRows
import GoSem.ClaimSeven
namespace Go.Proofs.YthambncffcphkaaDoor
namespace Rows

/-- THE TIED CARD OF 'laws.FnReadSubs'. -/
def fnReadSubsCard : Claim7 := { stood := { row := fnReadSubsRow, standIns := [], harness := (true, "6bbe44aef4fe7777250fdac927f85e828545f4c364c727508371195307cf2715"), looks := true }, kinds := [], alts := [], laidByText := true, laidKinds := [.sentinel, .sentinel], laidTests := true, laidLooks := .later }
def FnReadSubsCardSaid : Prop := Claim7.holds Tryd.pinned (.plain (OpenSpec.ofChange fnReadSubsSpec)) fnReadSubsCard

/-- THE TIED CARD OF 'laws.FnReadS2k'. -/
def fnReadS2kCard : Claim7 := { stood := { row := fnReadS2kRow, standIns := [], harness := (true, "6bbe44aef4fe7777250fdac927f85e828545f4c364c727508371195307cf2715"), looks := true }, kinds := [], alts := [], laidByText := true, laidKinds := [.sentinel, .sentinel, .sentinel], laidTests := true, laidLooks := .later }
def FnReadS2kCardSaid : Prop := Claim7.holds Tryd.pinned (.plain (OpenSpec.ofChange fnReadS2kSpec)) fnReadS2kCard

/-- THE SECOND FORM's CARD OF 'laws.FnReadSubs'. -/
def fnReadSubsUptoCard : Claim7 := { stood := { row := fnReadSubsUptoRow, standIns := [], harness := (true, "6bbe44aef4fe7777250fdac927f85e828545f4c364c727508371195307cf2715"), looks := true }, kinds := [], alts := [], laidByText := true, laidKinds := [.sentinel, .sentinel], laidTests := true, laidLooks := .later }
def FnReadSubsUptoCardSaid : Prop := Claim7.holds Tryd.pinned (.plain (OpenSpec.upto fnReadSubsSpec)) fnReadSubsUptoCard

/-- THE SECOND FORM's CARD OF 'laws.FnReadS2k'. -/
def fnReadS2kUptoCard : Claim7 := { stood := { row := fnReadS2kUptoRow, standIns := [], harness := (true, "6bbe44aef4fe7777250fdac927f85e828545f4c364c727508371195307cf2715"), looks := true }, kinds := [], alts := [], laidByText := true, laidKinds := [.sentinel, .sentinel, .sentinel], laidTests := true, laidLooks := .later }
def FnReadS2kUptoCardSaid : Prop := Claim7.holds Tryd.pinned (.plain (OpenSpec.upto fnReadS2kSpec)) fnReadS2kUptoCard
end Rows
end Go.Proofs.YthambncffcphkaaDoor
