/- The contract of impl.end: an error as a number. -/
import Derived.Test.YtllcfihbepmphaaDoorProg
import Derived.Test.YtllcfihbepmphaaDoorDoor
import Derived.Stop.Asserts
set_option linter.unusedVariables false
set_option linter.unusedSimpArgs false
namespace Go.Proofs.YtllcfihbepmphaaDoor
open Go.RowKit V
theorem ta_us (v : Value) (w : World) : (Instr.typeAssert (.iface 135 v) 94 134 true).run Tryd.prog w = .ok (.tuple #[.string ⟨#[]⟩, .bool false]) w := by kernel_rfl
theorem ta_uu (v : Value) (w : World) : (Instr.typeAssert (.iface 135 v) 94 135 true).run Tryd.prog w = .ok (.tuple #[v, .bool true]) w := by kernel_rfl
theorem ta_ss (v : Value) (w : World) : (Instr.typeAssert (.iface 134 v) 94 134 true).run Tryd.prog w = .ok (.tuple #[v, .bool true]) w := by kernel_rfl
theorem ta_is (v : Value) (w : World) : (Instr.typeAssert (.iface 133 v) 94 134 true).run Tryd.prog w = .ok (.tuple #[.string ⟨#[]⟩, .bool false]) w := by kernel_rfl
theorem ta_iu (v : Value) (w : World) : (Instr.typeAssert (.iface 133 v) 94 135 true).run Tryd.prog w = .ok (.tuple #[.string ⟨#[]⟩, .bool false]) w := by kernel_rfl
def Num (n : Int) (w : World) (e : Ending) (w' : World) : Prop := e = .returned (.int .i64 n) ∧ w' = w
set_option maxHeartbeats 1000000 in
theorem end_nil (w : World) : Calls Tryd.prog 36 #[.nilIface] w (Num 0 w) := by
  go_enter Tryd.func36, Tryd.ntmps36
  go_wp2
  go_ret
  exact ⟨rfl, rfl⟩
set_option maxRecDepth 100000 in
set_option maxHeartbeats 1000000 in
theorem end_unsupported (s : ByteArray) (w : World) (a0 a1 : Addr) (hS : Sent w a0 a1) : Calls Tryd.prog 36 #[.iface 135 (.string s)] w (Num 4 w) := by
  obtain ⟨c0, c1, _, _, _⟩ := hS
  have t1 := ta_us (.string s)
  have t2 := ta_uu (.string s)
  have hq := fun a w => run_eql_iface_types (P := Tryd.prog) 135 156 (.string s) (.pointer (some a)) Tryd.underlying94 (by decide) w
  go_enter Tryd.func36, Tryd.ntmps36
  go_wp2
  go_ret
  exact ⟨rfl, rfl⟩
set_option maxRecDepth 100000 in
set_option maxHeartbeats 1000000 in
theorem end_structural (s : ByteArray) (w : World) (a0 a1 : Addr) (hS : Sent w a0 a1) : Calls Tryd.prog 36 #[.iface 134 (.string s)] w (Num 3 w) := by
  obtain ⟨c0, c1, _, _, _⟩ := hS
  have t1 := ta_ss (.string s)
  have hq := fun a w => run_eql_iface_types (P := Tryd.prog) 134 156 (.string s) (.pointer (some a)) Tryd.underlying94 (by decide) w
  go_enter Tryd.func36, Tryd.ntmps36
  go_wp2
  go_ret
  exact ⟨rfl, rfl⟩
set_option maxRecDepth 100000 in
set_option maxHeartbeats 1000000 in
theorem end_invalid (s : ByteArray) (w : World) (a0 a1 : Addr) (hS : Sent w a0 a1) : Calls Tryd.prog 36 #[.iface 133 (.string s)] w (Num 5 w) := by
  obtain ⟨c0, c1, _, _, _⟩ := hS
  have t1 := ta_is (.string s)
  have t2 := ta_iu (.string s)
  have hq := fun a w => run_eql_iface_types (P := Tryd.prog) 133 156 (.string s) (.pointer (some a)) Tryd.underlying94 (by decide) w
  go_enter Tryd.func36, Tryd.ntmps36
  go_wp2
  go_ret
  exact ⟨rfl, rfl⟩
end Go.Proofs.YtllcfihbepmphaaDoor
