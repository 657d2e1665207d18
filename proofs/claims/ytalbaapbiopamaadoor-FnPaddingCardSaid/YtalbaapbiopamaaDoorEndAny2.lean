/- The contract of impl.end at the errors of a read, and at a text's. -/
import Derived.Test.YtalbaapbiopamaaDoorEnd
import Derived.Test.YtalbaapbiopamaaDoorReadIt
set_option linter.unusedVariables false
set_option linter.unusedSimpArgs false
namespace Go.Proofs.YtalbaapbiopamaaDoor
open Go.RowKit V
theorem ptrOther {w : World} {a0 a1 : Addr} (h : Sent w a0 a1) : (binOp .eql 38 (.iface 88 (.pointer (some a1))) (.iface 88 (.pointer (some a0)))).run Tryd.prog w = .ok (.bool false) w := by
  have h1 : (Tryd.prog.info? 88).map (·.comparable) = some true := by kernel_rfl
  have h2 : (Tryd.prog.info? 109).map (·.size) = some 1 := by kernel_rfl
  obtain ⟨i, hi, hc⟩ := Option.map_eq_some_iff.1 h1
  obtain ⟨j, hj, hz⟩ := Option.map_eq_some_iff.1 h2
  obtain ⟨_, _, hne, ⟨c0, t0, k0⟩, ⟨c1, t1, k1⟩⟩ := h
  exact run_eql_iface_ptr_other w Tryd.underlying38 Tryd.underlying88 hi hc hj (by rw [hz]; decide) hne.symm k1 k0
set_option maxRecDepth 100000 in
set_option maxHeartbeats 1000000 in
theorem end_cut (w : World) (a0 a1 : Addr) (hS : Sent w a0 a1) : Calls Tryd.prog 9 #[.iface 88 (.pointer (some a1))] w (Num 2 w) := by
  have po := ptrOther hS
  have ps := ptrSame a1
  obtain ⟨c0, c1, _, _, _⟩ := hS
  go_enter Tryd.func9, Tryd.ntmps9
  go_wp2
  go_ret
  exact ⟨rfl, rfl⟩
set_option maxRecDepth 100000 in
set_option maxHeartbeats 1000000 in
theorem end_eof (w : World) (a0 a1 : Addr) (hS : Sent w a0 a1) : Calls Tryd.prog 9 #[.iface 88 (.pointer (some a0))] w (Num 1 w) := by
  have ps := ptrSame a0
  obtain ⟨c0, c1, _, _, _⟩ := hS
  go_enter Tryd.func9, Tryd.ntmps9
  go_wp2
  go_ret
  exact ⟨rfl, rfl⟩
/-- Any of these errors is one. -/
theorem end_err (er : Value) (w : World) (a0 a1 : Addr) (hS : Sent w a0 a1) (h : er = .iface 88 (.pointer (some a0)) ∨ er = .iface 88 (.pointer (some a1)) ∨ ∃ t : ByteArray, er = .iface 58 (.string t)) :
    Calls Tryd.prog 9 #[er] w fun e w' => ∃ h : Int, h ≠ 0 ∧ e = .returned (.int .i64 h) ∧ w' = w := by
  rcases h with rfl | rfl | ⟨t, rfl⟩
  · exact (end_eof w a0 a1 hS).mono fun e w' ⟨he, hw⟩ => ⟨1, by decide, he, hw⟩
  · exact (end_cut w a0 a1 hS).mono fun e w' ⟨he, hw⟩ => ⟨2, by decide, he, hw⟩
  · exact (end_unsupported t w a0 a1 hS).mono fun e w' ⟨he, hw⟩ => ⟨4, by decide, he, hw⟩
end Go.Proofs.YtalbaapbiopamaaDoor
