/-
  DERIVED. GIVEN WITH THE SEED: THE CARDS: each row of YtllcfihbepmphaaDoorRows.lean that lists a variable, with what it lists TIED to the program's text (the seventh form; the later family's looks); each row that meets fmt, with fmt's text TOLD by the authors' own Lean function (tested against real Go, not proved from fmt's source: count such statements apart). THE CARD IS WHAT COUNTS. Prove the row's statement (the work); the ties are given (YtllcfihbepmphaaDoorTie.lean); close each card by the builder's one call (the guide's Derived/Test/ToyasCard.lean, 'card_holds'). Laid BY PROGRAM, IN A SANDBOX (cutbox-door.mjs). By AI agents, Wed Nov 11 2026. No macro, syntax, notation, axiom, sorry.
-/
import Derived.Test.YtllcfihbepmphaaDoorRows
import GoSem.ClaimSeven
namespace Go.Proofs.YtllcfihbepmphaaDoor
namespace Rows

/-- THE TIED CARD OF 'laws.FnSetSalt'. -/
def fnSetSaltCard : Claim7 := { stood := { row := fnSetSaltRow, standIns := [], harness := (true, "8e08321f1de7cd8b5ae5e1efde2841e5049d1f8d2f4e58b42fb82073c50ff210"), looks := true }, kinds := [], alts := [], laidByText := true, laidKinds := [.sentinel, .sentinel], laidTests := true, laidLooks := .later }
def FnSetSaltCardSaid : Prop := Claim7.holds Tryd.pinned (.plain (OpenSpec.ofChange fnSetSaltSpec)) fnSetSaltCard

/-- THE TIED CARD OF 'laws.FnReadSubs'. -/
def fnReadSubsCard : Claim7 := { stood := { row := fnReadSubsRow, standIns := [], harness := (true, "8e08321f1de7cd8b5ae5e1efde2841e5049d1f8d2f4e58b42fb82073c50ff210"), looks := true }, kinds := [], alts := [], laidByText := true, laidKinds := [.sentinel, .sentinel], laidTests := true, laidLooks := .later }
def FnReadSubsCardSaid : Prop := Claim7.holds Tryd.pinned (.plain (OpenSpec.ofChange fnReadSubsSpec)) fnReadSubsCard

/-- THE TIED CARD OF 'laws.FnReadS2k'. -/
def fnReadS2kCard : Claim7 := { stood := { row := fnReadS2kRow, standIns := [], harness := (true, "8e08321f1de7cd8b5ae5e1efde2841e5049d1f8d2f4e58b42fb82073c50ff210"), looks := true }, kinds := [], alts := [], laidByText := true, laidKinds := [.sentinel, .sentinel, .sentinel], laidTests := true, laidLooks := .later }
def FnReadS2kCardSaid : Prop := Claim7.holds Tryd.pinned (.plain (OpenSpec.ofChange fnReadS2kSpec)) fnReadS2kCard

/-- THE TIED CARD OF 'laws.FnReadMpi'. -/
def fnReadMpiCard : Claim7 := { stood := { row := fnReadMpiRow, standIns := [], harness := (true, "8e08321f1de7cd8b5ae5e1efde2841e5049d1f8d2f4e58b42fb82073c50ff210"), looks := true }, kinds := [], alts := [], laidByText := true, laidKinds := [.sentinel, .sentinel, .sentinel], laidTests := true, laidLooks := .later }
def FnReadMpiCardSaid : Prop := Claim7.holds Tryd.pinned (.plain (OpenSpec.ofChange fnReadMpiSpec)) fnReadMpiCard

/-- THE TIED CARD OF 'laws.FnNewOid'. -/
def fnNewOidCard : Claim7 := { stood := { row := fnNewOidRow, standIns := [], harness := (true, "8e08321f1de7cd8b5ae5e1efde2841e5049d1f8d2f4e58b42fb82073c50ff210"), looks := true }, kinds := [], alts := [], laidByText := true, laidKinds := [.sentinel, .sentinel, .sentinel], laidTests := true, laidLooks := .later }
def FnNewOidCardSaid : Prop := Claim7.holds Tryd.pinned (.plain (OpenSpec.ofChange fnNewOidSpec)) fnNewOidCard

/-- THE TIED CARD OF 'laws.FnNewMpi'. -/
def fnNewMpiCard : Claim7 := { stood := { row := fnNewMpiRow, standIns := [], harness := (true, "8e08321f1de7cd8b5ae5e1efde2841e5049d1f8d2f4e58b42fb82073c50ff210"), looks := true }, kinds := [], alts := [], laidByText := true, laidKinds := [.sentinel, .sentinel, .sentinel], laidTests := true, laidLooks := .later }
def FnNewMpiCardSaid : Prop := Claim7.holds Tryd.pinned (.plain (OpenSpec.ofChange fnNewMpiSpec)) fnNewMpiCard

/-- THE SECOND FORM's CARD OF 'laws.FnSetSalt'. -/
def fnSetSaltUptoCard : Claim7 := { stood := { row := fnSetSaltUptoRow, standIns := [], harness := (true, "8e08321f1de7cd8b5ae5e1efde2841e5049d1f8d2f4e58b42fb82073c50ff210"), looks := true }, kinds := [], alts := [], laidByText := true, laidKinds := [.sentinel, .sentinel], laidTests := true, laidLooks := .later }
def FnSetSaltUptoCardSaid : Prop := Claim7.holds Tryd.pinned (.plain (OpenSpec.upto fnSetSaltSpec)) fnSetSaltUptoCard

/-- THE SECOND FORM's CARD OF 'laws.FnReadSubs'. -/
def fnReadSubsUptoCard : Claim7 := { stood := { row := fnReadSubsUptoRow, standIns := [], harness := (true, "8e08321f1de7cd8b5ae5e1efde2841e5049d1f8d2f4e58b42fb82073c50ff210"), looks := true }, kinds := [], alts := [], laidByText := true, laidKinds := [.sentinel, .sentinel], laidTests := true, laidLooks := .later }
def FnReadSubsUptoCardSaid : Prop := Claim7.holds Tryd.pinned (.plain (OpenSpec.upto fnReadSubsSpec)) fnReadSubsUptoCard

/-- THE SECOND FORM's CARD OF 'laws.FnReadS2k'. -/
def fnReadS2kUptoCard : Claim7 := { stood := { row := fnReadS2kUptoRow, standIns := [], harness := (true, "8e08321f1de7cd8b5ae5e1efde2841e5049d1f8d2f4e58b42fb82073c50ff210"), looks := true }, kinds := [], alts := [], laidByText := true, laidKinds := [.sentinel, .sentinel, .sentinel], laidTests := true, laidLooks := .later }
def FnReadS2kUptoCardSaid : Prop := Claim7.holds Tryd.pinned (.plain (OpenSpec.upto fnReadS2kSpec)) fnReadS2kUptoCard

/-- THE SECOND FORM's CARD OF 'laws.FnReadMpi'. -/
def fnReadMpiUptoCard : Claim7 := { stood := { row := fnReadMpiUptoRow, standIns := [], harness := (true, "8e08321f1de7cd8b5ae5e1efde2841e5049d1f8d2f4e58b42fb82073c50ff210"), looks := true }, kinds := [], alts := [], laidByText := true, laidKinds := [.sentinel, .sentinel, .sentinel], laidTests := true, laidLooks := .later }
def FnReadMpiUptoCardSaid : Prop := Claim7.holds Tryd.pinned (.plain (OpenSpec.upto fnReadMpiSpec)) fnReadMpiUptoCard

/-- THE SECOND FORM's CARD OF 'laws.FnNewOid'. -/
def fnNewOidUptoCard : Claim7 := { stood := { row := fnNewOidUptoRow, standIns := [], harness := (true, "8e08321f1de7cd8b5ae5e1efde2841e5049d1f8d2f4e58b42fb82073c50ff210"), looks := true }, kinds := [], alts := [], laidByText := true, laidKinds := [.sentinel, .sentinel, .sentinel], laidTests := true, laidLooks := .later }
def FnNewOidUptoCardSaid : Prop := Claim7.holds Tryd.pinned (.plain (OpenSpec.upto fnNewOidSpec)) fnNewOidUptoCard

/-- THE SECOND FORM's CARD OF 'laws.FnNewMpi'. -/
def fnNewMpiUptoCard : Claim7 := { stood := { row := fnNewMpiUptoRow, standIns := [], harness := (true, "8e08321f1de7cd8b5ae5e1efde2841e5049d1f8d2f4e58b42fb82073c50ff210"), looks := true }, kinds := [], alts := [], laidByText := true, laidKinds := [.sentinel, .sentinel, .sentinel], laidTests := true, laidLooks := .later }
def FnNewMpiUptoCardSaid : Prop := Claim7.holds Tryd.pinned (.plain (OpenSpec.upto fnNewMpiSpec)) fnNewMpiUptoCard
end Rows
end Go.Proofs.YtllcfihbepmphaaDoor
