/-
  DERIVED. GIVEN WITH THE SEED: THE CARDS: each row of YtlpningplmbnhaaDoorRows.lean that lists a variable, with what it lists TIED to the program's text (the seventh form; the later family's looks); each row that meets fmt, with fmt's text TOLD by the authors' own Lean function (tested against real Go, not proved from fmt's source: count such statements apart). THE CARD IS WHAT COUNTS. Prove the row's statement (the work); the ties are given (YtlpningplmbnhaaDoorTie.lean); close each card by the builder's one call (the guide's Derived/Test/ToyasCard.lean, 'card_holds'). Laid BY PROGRAM, IN A SANDBOX (cutbox-door.mjs). By AI agents, Wed Nov 11 2026. No macro, syntax, notation, axiom, sorry.
-/
import Derived.Test.YtlpningplmbnhaaDoorRows
import GoSem.ClaimSeven
namespace Go.Proofs.YtlpningplmbnhaaDoor
namespace Rows

/-- THE TIED CARD OF 'laws.FnOcbHash'. -/
def fnOcbHashCard : Claim7 := { stood := { row := fnOcbHashRow, standIns := [], harness := (true, "1d594f8bfce4494dec89aa7e4415c20a9f0f7bfd1cc459a56d97a95385adb331"), looks := false }, kinds := [], alts := [], laidByText := true, laidKinds := [.data, .data], laidTests := true, laidLooks := .later }
def FnOcbHashCardSaid : Prop := Claim7.holds Tryd.pinned (.plain (OpenSpec.ofChange fnOcbHashSpec)) fnOcbHashCard

/-- THE SECOND FORM's CARD OF 'laws.FnOcbHash'. -/
def fnOcbHashUptoCard : Claim7 := { stood := { row := fnOcbHashUptoRow, standIns := [], harness := (true, "1d594f8bfce4494dec89aa7e4415c20a9f0f7bfd1cc459a56d97a95385adb331"), looks := false }, kinds := [], alts := [], laidByText := true, laidKinds := [.data, .data], laidTests := true, laidLooks := .later }
def FnOcbHashUptoCardSaid : Prop := Claim7.holds Tryd.pinned (.plain (OpenSpec.upto fnOcbHashSpec)) fnOcbHashUptoCard
end Rows
end Go.Proofs.YtlpningplmbnhaaDoor
