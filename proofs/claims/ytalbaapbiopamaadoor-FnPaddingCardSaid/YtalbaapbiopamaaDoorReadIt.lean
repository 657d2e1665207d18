/- Closed facts: source.Read through an interface, a sentinel against itself. -/
import Derived.Test.YtalbaapbiopamaaDoorSource2
import Derived.Stop.Asserts
set_option linter.unusedVariables false
set_option linter.unusedSimpArgs false
namespace Go.Proofs.YtalbaapbiopamaaDoor
open Go.RowKit V
theorem nil_aheadR (a : Addr) (w : World) : (nilAhead 212 34 (.pointer (some a)) "Read").run Tryd.prog w = .ok (some false) w := by kernel_rfl
theorem method_read (a : Addr) (w : World) : (method 212 34 (.pointer (some a)) "Read").run Tryd.prog w = .ok (36, .pointer (some a)) w := by kernel_rfl
theorem ptrSame (a : Addr) (w : World) : (binOp .eql 38 (.iface 88 (.pointer (some a))) (.iface 88 (.pointer (some a)))).run Tryd.prog w = .ok (.bool true) w := by
  have h1 : (Tryd.prog.info? 88).map (·.comparable) = some true := by kernel_rfl
  have h2 : (Tryd.prog.info? 109).isSome = true := by kernel_rfl
  obtain ⟨i, hi, hc⟩ := Option.map_eq_some_iff.1 h1
  obtain ⟨j, hj⟩ := Option.isSome_iff_exists.1 h2
  exact run_eql_iface_ptr_same w a Tryd.underlying38 Tryd.underlying88 hi hc hj
end Go.Proofs.YtalbaapbiopamaaDoor
