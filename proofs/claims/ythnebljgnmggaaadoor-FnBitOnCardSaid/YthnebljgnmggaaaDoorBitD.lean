/- Bigall's four thresholds as they are laid when a call begins: a world that holds them. -/
import Derived.Test.YthnebljgnmggaaaDoorV3
import Derived.Test.YthnebljgnmggaaaDoorRows
import Derived.ChangeSame
import Derived.ChangeVars
import Derived.JoinedOf
import Derived.RowKit
import Derived.RowKitTokens
import Derived.LaidLaws
import Derived.LaidEql
import Derived.Stop.ErrReads
import Derived.WideKeyArr2
set_option linter.unusedVariables false
set_option linter.unusedSimpArgs false
namespace Go.Proofs.YthnebljgnmggaaaDoor
open Go.ChangeShapes Go.WideShapes Go.RowKit V
theorem own : ownKnob Tryd.prog.godebug = none := by kernel_rfl
theorem laidOut : laidOutB Tryd.prog = true := by kernel_rfl
theorem sent_of_laid4 {W : World} (h : laidMet Tryd.prog [("pub-counterseal/pub/bigall.divRecursiveThreshold", Rows.laid_pub_counterseal_pub_bigall_divRecursiveThreshold), ("pub-counterseal/pub/bigall.karatsubaThreshold", Rows.laid_pub_counterseal_pub_bigall_karatsubaThreshold), ("pub-counterseal/pub/bigall.basicSqrThreshold", Rows.laid_pub_counterseal_pub_bigall_basicSqrThreshold), ("pub-counterseal/pub/bigall.karatsubaSqrThreshold", Rows.laid_pub_counterseal_pub_bigall_karatsubaSqrThreshold)] W) : ∃ _ _ : Addr, True :=
  ⟨⟨0, 0, none⟩, ⟨0, 0, none⟩, trivial⟩
set_option maxRecDepth 100000
noncomputable def laidWorld4 (os : Os) : World :=
  let w0 := World.holding Tryd.prog os ⟨#[], #[], []⟩
  { w0 with heap := (((w0.heap.modify 3 fun
      | .cells _ t frozen => .cells #[.int .i64 40] t frozen
      | o => o).modify 2 fun
      | .cells _ t frozen => .cells #[.int .i64 40] t frozen
      | o => o).modify 0 fun
      | .cells _ t frozen => .cells #[.int .i64 12] t frozen
      | o => o).modify 1 fun
      | .cells _ t frozen => .cells #[.int .i64 80] t frozen
      | o => o }
theorem laidWorld4_met (os : Os) (args : Array Value) : laidMet Tryd.prog [("pub-counterseal/pub/bigall.divRecursiveThreshold", Rows.laid_pub_counterseal_pub_bigall_divRecursiveThreshold), ("pub-counterseal/pub/bigall.karatsubaThreshold", Rows.laid_pub_counterseal_pub_bigall_karatsubaThreshold), ("pub-counterseal/pub/bigall.basicSqrThreshold", Rows.laid_pub_counterseal_pub_bigall_basicSqrThreshold), ("pub-counterseal/pub/bigall.karatsubaSqrThreshold", Rows.laid_pub_counterseal_pub_bigall_karatsubaSqrThreshold)] ((laidWorld4 os).forCall (fun _ _ => 0) ⟨#[], args, []⟩).memory :=
  laidMet_of_run' 8 (by kernel_rfl) (by kernel_rfl)
end Go.Proofs.YthnebljgnmggaaaDoor
