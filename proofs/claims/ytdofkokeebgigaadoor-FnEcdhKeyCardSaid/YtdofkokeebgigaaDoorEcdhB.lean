/- The contract of ecdh.buildKey over the hash of plain data, nothing stripped. -/
import Derived.Test.YtdofkokeebgigaaDoorEcdhN
import Derived.Test.YtdofkokeebgigaaDoorBuf
import Derived.Test.YtdofkokeebgigaaDoorStrm
import Derived.Deep.RegionLaw
import Derived.Lib.SlBytesConst
import Derived.Deep.RegionHeld3
import Derived.Deep.DeepCutAuto
set_option linter.unusedVariables false
set_option linter.unusedSimpArgs false
namespace Go.Proofs.YtdofkokeebgigaaDoor
open Go.RowKit V
theorem na_write (a : Addr) (w : World) : (nilAhead 243 43 (.pointer (some a)) "Write").run Tryd.prog w = .ok (some false) w := by kernel_rfl
theorem na_sum (a : Addr) (w : World) : (nilAhead 243 43 (.pointer (some a)) "Sum").run Tryd.prog w = .ok (some false) w := by kernel_rfl
theorem me_write (a : Addr) (w : World) : (method 243 43 (.pointer (some a)) "Write").run Tryd.prog w = .ok (45, .pointer (some a)) w := by kernel_rfl
theorem me_sum (a : Addr) (w : World) : (method 243 43 (.pointer (some a)) "Sum").run Tryd.prog w = .ok (44, .pointer (some a)) w := by kernel_rfl
theorem na_hid (v1 v2 : Value) (w : World) : (nilAhead 243 51 (.agg #[v1, v2]) "Id").run Tryd.prog w = .ok (some false) w := by kernel_rfl
theorem na_hnew (v1 v2 : Value) (w : World) : (nilAhead 243 51 (.agg #[v1, v2]) "New").run Tryd.prog w = .ok (some false) w := by kernel_rfl
theorem na_cid (v1 v2 : Value) (w : World) : (nilAhead 243 53 (.agg #[v1, v2]) "Id").run Tryd.prog w = .ok (some false) w := by kernel_rfl
theorem na_csz (v1 v2 : Value) (w : World) : (nilAhead 243 53 (.agg #[v1, v2]) "KeySize").run Tryd.prog w = .ok (some false) w := by kernel_rfl
theorem me_hid (v1 v2 : Value) (w : World) : (method 243 51 (.agg #[v1, v2]) "Id").run Tryd.prog w = .ok (50, .agg #[v1, v2]) w := by kernel_rfl
theorem me_hnew (v1 v2 : Value) (w : World) : (method 243 51 (.agg #[v1, v2]) "New").run Tryd.prog w = .ok (51, .agg #[v1, v2]) w := by kernel_rfl
theorem me_cid (v1 v2 : Value) (w : World) : (method 243 53 (.agg #[v1, v2]) "Id").run Tryd.prog w = .ok (55, .agg #[v1, v2]) w := by kernel_rfl
theorem me_csz (v1 v2 : Value) (w : World) : (method 243 53 (.agg #[v1, v2]) "KeySize").run Tryd.prog w = .ok (56, .agg #[v1, v2]) w := by kernel_rfl
/-- x[:] -/
theorem cut_whole {P : Program} (t e : TypeId) (ht : P.underlying t = some (.slice e)) (hsz : (P.info? e).map (·.size) = some 1) (A : Option Addr) (n c : Nat) (hnc : n ≤ c) :
    ∀ W : World, (Instr.slice t (.slice A n c) none none none).run P W = .ok (.slice A n c) W := by
  intro W
  cases hq : P.info? e with
  | none => simp [hq] at hsz
  | some q =>
    have hs1 : q.size = 1 := by simpa [hq] using hsz
    have e0 : A.map (·.add 0) = A := map_add_zero A
    simp [Instr.slice, run_underlying ht, Instr.sliceBounds, Instr.sliceBound, asIntOf, sizeOf, typeInfo, hq, hs1, go_sem, e0]
set_option maxRecDepth 100000 in
set_option maxHeartbeats 1000000 in
theorem bufRow_any (b m c : Nat) (A : Option Addr) (lr : Int) (w : World) (hb : Blk w b 71 [.slice A m c, .int .i64 0, .int .i8 lr]) (hmc : m ≤ c) :
    Calls Tryd.prog 20 #[.pointer (some ⟨b, 0, none⟩)] w fun e w' => (∃ A', e = .returned (.slice A' m c) ∧ (0 < m → A' = A)) ∧ ∃ n, w' = w.drewN n := by
  obtain ⟨A', hcut, hA', _⟩ := cut_from (P := Tryd.prog) 22 5 Tryd.underlying22 size8 A m c 0 .i64 m c (by omega) (by omega) (by omega) hmc
  have c0 := hb.cell 0
  have c1 := hb.cell 1
  simp only [List.getElem?_cons_zero, List.getElem?_cons_succ] at c0 c1
  have HA : As (0 < m → A' = A) := ⟨fun h => by rw [hA' h]; exact map_add_zero A⟩
  clear hb hA'
  go_enter Tryd.func20, Tryd.ntmps20
  go_wp2_with fail
  go_quiet (fail)
  go_wp2_with fail
  go_ret
  exact ⟨⟨A', rfl, HA.out⟩, _, rfl⟩
end Go.Proofs.YtdofkokeebgigaaDoor
