/- The contract of impl.end: an error as a number. -/
import Derived.Test.YtalbaapbiopamaaDoorProg
import Derived.Test.YtalbaapbiopamaaDoorDoor
import Derived.Stop.Asserts
set_option linter.unusedVariables false
set_option linter.unusedSimpArgs false
namespace Go.Proofs.YtalbaapbiopamaaDoor
open Go.RowKit V
theorem ta_us (v : Value) (w : World) : (Instr.typeAssert (.iface 58 v) 38 57 true).run Tryd.prog w = .ok (.tuple #[.string ⟨#[]⟩, .bool false]) w := by kernel_rfl
theorem ta_uu (v : Value) (w : World) : (Instr.typeAssert (.iface 58 v) 38 58 true).run Tryd.prog w = .ok (.tuple #[v, .bool true]) w := by kernel_rfl
theorem ta_ss (v : Value) (w : World) : (Instr.typeAssert (.iface 57 v) 38 57 true).run Tryd.prog w = .ok (.tuple #[v, .bool true]) w := by kernel_rfl
def Num (n : Int) (w : World) (e : Ending) (w' : World) : Prop := e = .returned (.int .i64 n) ∧ w' = w
set_option maxHeartbeats 1000000 in
theorem end_nil (w : World) : Calls Tryd.prog 9 #[.nilIface] w (Num 0 w) := by
  go_enter Tryd.func9, Tryd.ntmps9
  go_wp2
  go_ret
  exact ⟨rfl, rfl⟩
set_option maxRecDepth 100000 in
set_option maxHeartbeats 1000000 in
theorem end_unsupported (s : ByteArray) (w : World) (a0 a1 : Addr) (hS : Sent w a0 a1) : Calls Tryd.prog 9 #[.iface 58 (.string s)] w (Num 4 w) := by
  obtain ⟨c0, c1, _, _, _⟩ := hS
  have t1 := ta_us (.string s)
  have t2 := ta_uu (.string s)
  have hq := fun a w => run_eql_iface_types (P := Tryd.prog) 58 88 (.string s) (.pointer (some a)) Tryd.underlying38 (by decide) w
  go_enter Tryd.func9, Tryd.ntmps9
  go_wp2
  go_ret
  exact ⟨rfl, rfl⟩
set_option maxRecDepth 100000 in
set_option maxHeartbeats 1000000 in
theorem end_structural (s : ByteArray) (w : World) (a0 a1 : Addr) (hS : Sent w a0 a1) : Calls Tryd.prog 9 #[.iface 57 (.string s)] w (Num 3 w) := by
  obtain ⟨c0, c1, _, _, _⟩ := hS
  have t1 := ta_ss (.string s)
  have hq := fun a w => run_eql_iface_types (P := Tryd.prog) 57 88 (.string s) (.pointer (some a)) Tryd.underlying38 (by decide) w
  go_enter Tryd.func9, Tryd.ntmps9
  go_wp2
  go_ret
  exact ⟨rfl, rfl⟩
end Go.Proofs.YtalbaapbiopamaaDoor
