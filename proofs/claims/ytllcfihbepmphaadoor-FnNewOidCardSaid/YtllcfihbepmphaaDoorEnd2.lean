/- The contract of impl.end at io.ErrUnexpectedEOF. -/
import Derived.Test.YtllcfihbepmphaaDoorEnd
import Derived.Test.YtllcfihbepmphaaDoorMpi
set_option linter.unusedVariables false
set_option linter.unusedSimpArgs false
namespace Go.Proofs.YtllcfihbepmphaaDoor
open Go.RowKit V
set_option maxRecDepth 100000 in
set_option maxHeartbeats 1000000 in
theorem end_cut (w : World) (a0 a1 : Addr) (hS : Sent w a0 a1) : Calls Tryd.prog 36 #[.iface 156 (.pointer (some a1))] w (Num 2 w) := by
  have po := ptrOther hS
  have ps := ptrSame a1
  obtain ⟨c0, c1, _, _, _⟩ := hS
  go_enter Tryd.func36, Tryd.ntmps36
  go_wp2
  go_ret
  exact ⟨rfl, rfl⟩
end Go.Proofs.YtllcfihbepmphaaDoor
