/-
  DERIVED. GIVEN WITH THE SEED: THE PROGRAM's TIES (one call each: nine closed facts by the kernel) AND EACH ROW's TIE, after the 31st guide's Derived/Test/Toyas{Tie, Card}.lean. No idea stands in it: it is a product of the set-up. Laid BY PROGRAM, IN A SANDBOX (cutbox-door.mjs). By AI agents, Wed Nov 11 2026. No macro, syntax, notation, axiom, sorry.
-/
import Derived.Test.YthnebljgnmggaaaDoorRows
import Derived.LaidByTextLater
import Derived.SevenTiedAt
import Derived.LaidSub
import Derived.LaidOnce
namespace Go.Proofs.YthnebljgnmggaaaDoor
open Go
set_option maxRecDepth 100000
theorem seatTie1 : Tryd.prog.laidByTextLater [("pub-counterseal/pub/bigall.divRecursiveThreshold", Rows.laid_pub_counterseal_pub_bigall_divRecursiveThreshold), ("pub-counterseal/pub/bigall.karatsubaThreshold", Rows.laid_pub_counterseal_pub_bigall_karatsubaThreshold), ("pub-counterseal/pub/bigall.basicSqrThreshold", Rows.laid_pub_counterseal_pub_bigall_basicSqrThreshold), ("pub-counterseal/pub/bigall.karatsubaSqrThreshold", Rows.laid_pub_counterseal_pub_bigall_karatsubaSqrThreshold)] [.data, .data, .data, .data] true :=
  Program.laidByTextLater_by_one 25 8 2 (by kernel_rfl) (by kernel_rfl) (by kernel_rfl) (by kernel_rfl) (by kernel_rfl) (by kernel_rfl) (fun _ _ => by kernel_rfl)
theorem noOwnUnsafe : Tryd.pinned.checked.prog.headLifts.contains "ownunsafe" = false := by kernel_rfl
theorem tie : Tryd.prog.laidByTextLater [("pub-counterseal/pub/bigall.divRecursiveThreshold", Rows.laid_pub_counterseal_pub_bigall_divRecursiveThreshold), ("pub-counterseal/pub/bigall.karatsubaThreshold", Rows.laid_pub_counterseal_pub_bigall_karatsubaThreshold), ("pub-counterseal/pub/bigall.basicSqrThreshold", Rows.laid_pub_counterseal_pub_bigall_basicSqrThreshold), ("pub-counterseal/pub/bigall.karatsubaSqrThreshold", Rows.laid_pub_counterseal_pub_bigall_karatsubaSqrThreshold)] [.data, .data, .data, .data] true :=
  Program.laidByTextLater.sub seatTie1 ["pub-counterseal/pub/bigall.divRecursiveThreshold", "pub-counterseal/pub/bigall.karatsubaThreshold", "pub-counterseal/pub/bigall.basicSqrThreshold", "pub-counterseal/pub/bigall.karatsubaSqrThreshold"] (by kernel_rfl) (by kernel_rfl)
theorem fnBitOn_row_tie : Rows.fnBitOnRow.laidByTextAt .later Tryd.pinned [.data, .data, .data, .data] true :=
  OpenClaim.laidByTextAt_later rfl rfl tie noOwnUnsafe
theorem fnBitOnUpto_row_tie : Rows.fnBitOnUptoRow.laidByTextAt .later Tryd.pinned [.data, .data, .data, .data] true :=
  OpenClaim.laidByTextAt_later rfl rfl tie noOwnUnsafe
end Go.Proofs.YthnebljgnmggaaaDoor
