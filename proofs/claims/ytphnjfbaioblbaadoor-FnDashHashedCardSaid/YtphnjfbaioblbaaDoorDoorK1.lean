/- What the listed variables hold when a call begins (io.ErrShortWrite); a world that holds them. -/
import Derived.Test.YtphnjfbaioblbaaDoorRows
import Derived.Test.YtphnjfbaioblbaaDoorV2
import Derived.ChangeSame
import Derived.ChangeVars
import Derived.JoinedOf
import Derived.RowKit
import Derived.RowKitTokens
import Derived.LaidLaws
import Derived.LaidEql
import Derived.Stop.ErrReads
set_option linter.unusedVariables false
set_option linter.unusedSimpArgs false
namespace Go.Proofs.YtphnjfbaioblbaaDoor
open Go.ChangeShapes Go.WideShapes Go.RowKit V
theorem own : ownKnob Tryd.prog.godebug = none := by kernel_rfl
theorem laidOut : laidOutB Tryd.prog = true := by kernel_rfl
theorem gName0 : Tryd.prog.globalNamed "io.ErrShortWrite" = some 0 := by kernel_rfl
theorem gType0 : (Tryd.prog.globals[0]?).map (·.type) = some 40 := by kernel_rfl
theorem cellsEs : Tryd.prog.cellsOf 98 = 1 := by kernel_rfl
theorem cellsStr : Tryd.prog.cellsOf 9 = 1 := by kernel_rfl
theorem starEs : "*" ++ "errors.errorString" = "*errors.errorString" := by decide
theorem rowEs (u : TypeId) (h : Tryd.prog.typeName? 3 u = some "*errors.errorString") : u = 59 :=
  typeName_ptr_named (nm := "errors.errorString") (by rw [starEs]; kernel_rfl) (by kernel_rfl) (by decide) u (by rw [starEs]; exact h)
/-- What the variables hold: errors of errors.New's make, in blocks of their own. -/
def Sent1 (W : World) (a0 : Addr) : Prop :=
  W.cell? ⟨0, 0, none⟩ = some (.iface 59 (.pointer (some a0))) ∧
  (∃ c t, W.heap[a0.block]? = some (.cells c t (0, 0)))
theorem Sent1.lts {W : World} {a0 : Addr} (h : Sent1 W a0) : 0 < W.heap.size ∧ a0.block < W.heap.size := by
  obtain ⟨h0, ⟨c0, t0, k0⟩⟩ := h
  exact ⟨World.block_lt_of_cell? W _ h0, (Array.getElem?_eq_some_iff.1 k0).1⟩
theorem Sent1.chg {S : Nat → Prop} {B : Nat} {W W' : World} {a0 : Addr} (h : Sent1 W a0) (hB : 0 < B ∧ a0.block < B) (hc : Chg S W W') (hs : ∀ i, i < B → ¬ S i) : Sent1 W' a0 := by
  have hl := h.lts
  obtain ⟨lg0, la0⟩ := hl
  obtain ⟨bg0, ba0⟩ := hB
  obtain ⟨h0, ⟨c0, t0, k0⟩⟩ := h
  exact ⟨(hc.cell (p := ⟨0, 0, none⟩) lg0 (hs _ bg0)).trans h0, ⟨c0, t0, (hc.block _ la0 (hs _ ba0)).trans k0⟩⟩
theorem Sent1.keep {W W' : World} {a0 : Addr} (h : Sent1 W a0) (hc : Chg NoB W W') : Sent1 W' a0 := h.chg h.lts hc (fun _ _ e => e)
set_option maxRecDepth 100000 in
theorem sent_of_laid1 {W : World} (h : laidMet Tryd.prog [("io.ErrShortWrite", Rows.laid_io_ErrShortWrite)] W) : ∃ a0, Sent1 W a0 := by
  obtain ⟨ps, ⟨g0, y0, cs0, f0, p0, q0, hg0, ht0, hv0, hd0, hq0, e0⟩, hnd, hrows⟩ := h
  obtain rfl := Option.some.inj (gName0.symm.trans hg0)
  obtain rfl := Option.some.inj (gType0.symm.trans ht0)
  have hq' : q0 = [] := hq0
  subst hq'
  subst e0
  obtain ⟨l0⟩ := cs0
  have ok0 : ∀ u v, l0 = [.iface u v] → Value.okWide Tryd.prog W .any 0 u v := fun u v e => by
    subst e
    exact (hrows 0 0 (by simp [MemPlace.row])).2 u v (by simpa using World.var?_cell hg0 hv0 0)
  obtain ⟨a0, s0, rfl, hc0, hs0, hz0, rfl⟩ := errorString_of_trod Tryd.underlying40 rowEs Tryd.underlying59 Tryd.underlying98 rfl rfl Tryd.underlying9 cellsEs cellsStr hd0 ok0
  obtain ⟨c0, t0, hb0⟩ := (hrows a0.block a0.off (by simp [MemPlace.row])).1
  refine ⟨a0, by simpa using World.var?_cell gName0 hv0 0, ⟨c0, t0, hb0⟩⟩
set_option maxRecDepth 100000
noncomputable def low1 : Nat := (World.holding Tryd.prog default ⟨#[], #[], []⟩).heap.size
noncomputable def laidWorld1 (os : Os) : World :=
  let w0 := World.holding Tryd.prog os ⟨#[.cells #[.string { data := #[115, 104, 111, 114, 116, 32, 119, 114, 105, 116, 101] }] 98], #[], []⟩
  { w0 with heap := (w0.heap.modify 0 fun
      | .cells _ t frozen => .cells #[.iface 59 (.pointer (some ⟨low1 + 0, 0, none⟩))] t frozen
      | o => o) }
theorem laidWorld1_met (os : Os) (args : Array Value) : laidMet Tryd.prog [("io.ErrShortWrite", Rows.laid_io_ErrShortWrite)] ((laidWorld1 os).forCall (fun _ _ => 0) ⟨#[], args, []⟩).memory :=
  laidMet_of_run (ps := [.cell 0 0, .cell (low1 + 0) 0]) 8 (by kernel_rfl) (by kernel_rfl) (by kernel_rfl)
end Go.Proofs.YtphnjfbaioblbaaDoor
