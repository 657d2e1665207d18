/- How a recorder's and a canonical text hash's methods are found. -/
import Derived.Test.YtmokepbmodmgeaaCanR
set_option linter.unusedVariables false
namespace Go.Proofs.Ytmokepbmodmgeaa
open Go.RowKit V
theorem na_rw (a : Addr) (w : World) : (nilAhead 192 52 (.pointer (some a)) "Write").run Try.prog w = .ok (some false) w := by kernel_rfl
theorem me_rw (a : Addr) (w : World) : (method 192 52 (.pointer (some a)) "Write").run Try.prog w = .ok (52, .pointer (some a)) w := by kernel_rfl
theorem na_rs (a : Addr) (w : World) : (nilAhead 192 52 (.pointer (some a)) "Sum").run Try.prog w = .ok (some false) w := by kernel_rfl
theorem me_rs (a : Addr) (w : World) : (method 192 52 (.pointer (some a)) "Sum").run Try.prog w = .ok (51, .pointer (some a)) w := by kernel_rfl
theorem na_cw (a : Addr) (w : World) : (nilAhead 192 66 (.pointer (some a)) "Write").run Try.prog w = .ok (some false) w := by kernel_rfl
theorem me_cw (a : Addr) (w : World) : (method 192 66 (.pointer (some a)) "Write").run Try.prog w = .ok (57, .pointer (some a)) w := by kernel_rfl
theorem na_cs (a : Addr) (w : World) : (nilAhead 192 66 (.pointer (some a)) "Sum").run Try.prog w = .ok (some false) w := by kernel_rfl
theorem me_cs (a : Addr) (w : World) : (method 192 66 (.pointer (some a)) "Sum").run Try.prog w = .ok (56, .pointer (some a)) w := by kernel_rfl
end Go.Proofs.Ytmokepbmodmgeaa
