/- The two sentinels io.EOF and io.ErrUnexpectedEOF: what the listed variables hold when a call begins; a world that holds them. -/
import Derived.Test.YtalbaapbiopamaaDoorRows
import Derived.Test.YtalbaapbiopamaaDoorV2
import Derived.ChangeSame
import Derived.ChangeVars
import Derived.JoinedOf
import Derived.RowKit
import Derived.RowKitTokens
import Derived.LaidLaws
import Derived.LaidEql
import Derived.Stop.ErrReads
set_option linter.unusedVariables false
set_option linter.unusedSimpArgs false
namespace Go.Proofs.YtalbaapbiopamaaDoor
open Go.ChangeShapes Go.WideShapes Go.RowKit V
theorem own : ownKnob Tryd.prog.godebug = none := by kernel_rfl
theorem laidOut : laidOutB Tryd.prog = true := by kernel_rfl
theorem gEof : Tryd.prog.globalNamed "io.EOF" = some 0 := by kernel_rfl
theorem gCut : Tryd.prog.globalNamed "io.ErrUnexpectedEOF" = some 1 := by kernel_rfl
theorem gEofType : (Tryd.prog.globals[0]?).map (·.type) = some 38 := by kernel_rfl
theorem gCutType : (Tryd.prog.globals[1]?).map (·.type) = some 38 := by kernel_rfl
theorem cellsEs : Tryd.prog.cellsOf 109 = 1 := by kernel_rfl
theorem cellsStr : Tryd.prog.cellsOf 9 = 1 := by kernel_rfl
theorem starEs : "*" ++ "errors.errorString" = "*errors.errorString" := by decide
theorem rowEs (u : TypeId) (h : Tryd.prog.typeName? 3 u = some "*errors.errorString") : u = 88 :=
  typeName_ptr_named (nm := "errors.errorString") (by rw [starEs]; kernel_rfl) (by kernel_rfl) (by decide) u (by rw [starEs]; exact h)

/-- What the two variables hold: two errors of errors.New's make, in blocks of their own. -/
def Sent (W : World) (a0 a1 : Addr) : Prop :=
  W.cell? ⟨0, 0, none⟩ = some (.iface 88 (.pointer (some a0))) ∧ W.cell? ⟨1, 0, none⟩ = some (.iface 88 (.pointer (some a1))) ∧ a0 ≠ a1 ∧
  (∃ c0 t0, W.heap[a0.block]? = some (.cells c0 t0 (0, 0))) ∧ (∃ c1 t1, W.heap[a1.block]? = some (.cells c1 t1 (0, 0)))
theorem Sent.lts {W : World} {a0 a1 : Addr} (h : Sent W a0 a1) : 0 < W.heap.size ∧ 1 < W.heap.size ∧ a0.block < W.heap.size ∧ a1.block < W.heap.size := by
  obtain ⟨h0, h1, _, ⟨c0, t0, k0⟩, ⟨c1, t1, k1⟩⟩ := h
  exact ⟨World.block_lt_of_cell? W _ h0, World.block_lt_of_cell? W _ h1, (Array.getElem?_eq_some_iff.1 k0).1, (Array.getElem?_eq_some_iff.1 k1).1⟩
theorem Sent.chg {S : Nat → Prop} {B : Nat} {W W' : World} {a0 a1 : Addr} (h : Sent W a0 a1) (hB : 0 < B ∧ 1 < B ∧ a0.block < B ∧ a1.block < B) (hc : Chg S W W') (hs : ∀ i, i < B → ¬ S i) : Sent W' a0 a1 := by
  have hl := h.lts
  obtain ⟨h0, h1, hne, ⟨c0, t0, k0⟩, ⟨c1, t1, k1⟩⟩ := h
  exact ⟨(hc.cell (p := ⟨0, 0, none⟩) hl.1 (hs _ hB.1)).trans h0, (hc.cell (p := ⟨1, 0, none⟩) hl.2.1 (hs _ hB.2.1)).trans h1, hne,
    ⟨c0, t0, (hc.block _ hl.2.2.1 (hs _ hB.2.2.1)).trans k0⟩, ⟨c1, t1, (hc.block _ hl.2.2.2 (hs _ hB.2.2.2)).trans k1⟩⟩
theorem Sent.keep {W W' : World} {a0 a1 : Addr} (h : Sent W a0 a1) (hc : Chg NoB W W') : Sent W' a0 a1 := h.chg h.lts hc (fun _ _ e => e)

def laid2 {H : Type} : List (String × DataW H) := [("io.EOF", Rows.laid_io_EOF), ("io.ErrUnexpectedEOF", Rows.laid_io_ErrUnexpectedEOF)]
set_option maxRecDepth 100000 in
theorem sent_of_laid {W : World} (h : laidMet Tryd.prog [("io.EOF", Rows.laid_io_EOF), ("io.ErrUnexpectedEOF", Rows.laid_io_ErrUnexpectedEOF)] W) : ∃ a0 a1, Sent W a0 a1 := by
  obtain ⟨ps, ⟨g0, t0, cs0, f0, p0, q0, hg0, ht0, hv0, hd0, ⟨g1, t1, cs1, f1, p1, q1, hg1, ht1, hv1, hd1, hq1, e1⟩, e0⟩, hnd, hrows⟩ := h
  obtain rfl := Option.some.inj (gEof.symm.trans hg0)
  obtain rfl := Option.some.inj (gCut.symm.trans hg1)
  obtain rfl := Option.some.inj (gEofType.symm.trans ht0)
  obtain rfl := Option.some.inj (gCutType.symm.trans ht1)
  have hq1' : q1 = [] := hq1
  subst hq1'
  subst e1
  subst e0
  obtain ⟨l0⟩ := cs0
  obtain ⟨l1⟩ := cs1
  have ok0 : ∀ u v, l0 = [.iface u v] → Value.okWide Tryd.prog W .any 0 u v := fun u v e => by
    subst e
    exact (hrows 0 0 (by simp [MemPlace.row])).2 u v (by simpa using World.var?_cell hg0 hv0 0)
  have ok1 : ∀ u v, l1 = [.iface u v] → Value.okWide Tryd.prog W .any 0 u v := fun u v e => by
    subst e
    exact (hrows 1 0 (by simp [MemPlace.row])).2 u v (by simpa using World.var?_cell hg1 hv1 0)
  obtain ⟨a0, s0, rfl, hc0, hs0, hz0, rfl⟩ := errorString_of_trod Tryd.underlying38 rowEs Tryd.underlying88 Tryd.underlying109 rfl rfl Tryd.underlying9 cellsEs cellsStr hd0 ok0
  obtain ⟨a1, s1, rfl, hc1, hs1, hz1, rfl⟩ := errorString_of_trod Tryd.underlying38 rowEs Tryd.underlying88 Tryd.underlying109 rfl rfl Tryd.underlying9 cellsEs cellsStr hd1 ok1
  obtain ⟨c0, t0, hb0⟩ := (hrows a0.block a0.off (by simp [MemPlace.row])).1
  obtain ⟨c1, t1, hb1⟩ := (hrows a1.block a1.off (by simp [MemPlace.row])).1
  refine ⟨a0, a1, by simpa using World.var?_cell gEof hv0 0, by simpa using World.var?_cell gCut hv1 0, ?_, ⟨c0, t0, hb0⟩, ⟨c1, t1, hb1⟩⟩
  rintro rfl
  simp [MemPlace.row] at hnd

set_option maxRecDepth 100000
abbrev eofS : ByteArray := { data := #[69, 79, 70] }
abbrev cutS : ByteArray := { data := #[117, 110, 101, 120, 112, 101, 99, 116, 101, 100, 32, 69, 79, 70] }
noncomputable def low : Nat := (World.holding Tryd.prog default ⟨#[], #[], []⟩).heap.size
noncomputable def laidWorld (os : Os) : World :=
  let w0 := World.holding Tryd.prog os ⟨#[.cells #[.string eofS] 109, .cells #[.string cutS] 109], #[], []⟩
  { w0 with heap := (w0.heap.modify 0 fun
      | .cells _ t frozen => .cells #[.iface 88 (.pointer (some ⟨low, 0, none⟩))] t frozen
      | o => o).modify 1 fun
      | .cells _ t frozen => .cells #[.iface 88 (.pointer (some ⟨low + 1, 0, none⟩))] t frozen
      | o => o }
theorem laidWorld_met (os : Os) (args : Array Value) : laidMet Tryd.prog [("io.EOF", Rows.laid_io_EOF), ("io.ErrUnexpectedEOF", Rows.laid_io_ErrUnexpectedEOF)] ((laidWorld os).forCall (fun _ _ => 0) ⟨#[], args, []⟩).memory :=
  laidMet_of_run (ps := [.cell 0 0, .cell low 0, .cell 1 0, .cell (low + 1) 0]) 8 (by kernel_rfl) (by kernel_rfl) (by kernel_rfl)
end Go.Proofs.YtalbaapbiopamaaDoor
