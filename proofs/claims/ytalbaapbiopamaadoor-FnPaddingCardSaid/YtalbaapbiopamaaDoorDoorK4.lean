/- What the listed variables hold when a call begins (io.ErrShortWrite, io.errInvalidWrite, io.EOF, io.ErrUnexpectedEOF); a world that holds them. -/
import Derived.Test.YtalbaapbiopamaaDoorDoor
import Derived.Test.YtalbaapbiopamaaDoorRows
import Derived.Test.YtalbaapbiopamaaDoorV2
import Derived.ChangeSame
import Derived.ChangeVars
import Derived.JoinedOf
import Derived.RowKit
import Derived.RowKitTokens
import Derived.LaidLaws
import Derived.LaidEql
import Derived.Stop.ErrReads
set_option linter.unusedVariables false
set_option linter.unusedSimpArgs false
namespace Go.Proofs.YtalbaapbiopamaaDoor
open Go.ChangeShapes Go.WideShapes Go.RowKit V
theorem gName0 : Tryd.prog.globalNamed "io.ErrShortWrite" = some 3 := by kernel_rfl
theorem gType0 : (Tryd.prog.globals[3]?).map (·.type) = some 38 := by kernel_rfl
theorem gName1 : Tryd.prog.globalNamed "io.errInvalidWrite" = some 2 := by kernel_rfl
theorem gType1 : (Tryd.prog.globals[2]?).map (·.type) = some 38 := by kernel_rfl
theorem gName2 : Tryd.prog.globalNamed "io.EOF" = some 0 := by kernel_rfl
theorem gType2 : (Tryd.prog.globals[0]?).map (·.type) = some 38 := by kernel_rfl
theorem gName3 : Tryd.prog.globalNamed "io.ErrUnexpectedEOF" = some 1 := by kernel_rfl
theorem gType3 : (Tryd.prog.globals[1]?).map (·.type) = some 38 := by kernel_rfl
/-- What the variables hold: errors of errors.New's make, in blocks of their own. -/
def Sent4 (W : World) (a0 a1 a2 a3 : Addr) : Prop :=
  W.cell? ⟨3, 0, none⟩ = some (.iface 88 (.pointer (some a0))) ∧
  W.cell? ⟨2, 0, none⟩ = some (.iface 88 (.pointer (some a1))) ∧
  W.cell? ⟨0, 0, none⟩ = some (.iface 88 (.pointer (some a2))) ∧
  W.cell? ⟨1, 0, none⟩ = some (.iface 88 (.pointer (some a3))) ∧
  a0 ≠ a1 ∧
  a0 ≠ a2 ∧
  a0 ≠ a3 ∧
  a1 ≠ a2 ∧
  a1 ≠ a3 ∧
  a2 ≠ a3 ∧
  (∃ c t, W.heap[a0.block]? = some (.cells c t (0, 0))) ∧
  (∃ c t, W.heap[a1.block]? = some (.cells c t (0, 0))) ∧
  (∃ c t, W.heap[a2.block]? = some (.cells c t (0, 0))) ∧
  (∃ c t, W.heap[a3.block]? = some (.cells c t (0, 0)))
theorem Sent4.lts {W : World} {a0 a1 a2 a3 : Addr} (h : Sent4 W a0 a1 a2 a3) : 3 < W.heap.size ∧ 2 < W.heap.size ∧ 0 < W.heap.size ∧ 1 < W.heap.size ∧ a0.block < W.heap.size ∧ a1.block < W.heap.size ∧ a2.block < W.heap.size ∧ a3.block < W.heap.size := by
  obtain ⟨h0, h1, h2, h3, n01, n02, n03, n12, n13, n23, ⟨c0, t0, k0⟩, ⟨c1, t1, k1⟩, ⟨c2, t2, k2⟩, ⟨c3, t3, k3⟩⟩ := h
  exact ⟨World.block_lt_of_cell? W _ h0, World.block_lt_of_cell? W _ h1, World.block_lt_of_cell? W _ h2, World.block_lt_of_cell? W _ h3, (Array.getElem?_eq_some_iff.1 k0).1, (Array.getElem?_eq_some_iff.1 k1).1, (Array.getElem?_eq_some_iff.1 k2).1, (Array.getElem?_eq_some_iff.1 k3).1⟩
theorem Sent4.chg {S : Nat → Prop} {B : Nat} {W W' : World} {a0 a1 a2 a3 : Addr} (h : Sent4 W a0 a1 a2 a3) (hB : 3 < B ∧ 2 < B ∧ 0 < B ∧ 1 < B ∧ a0.block < B ∧ a1.block < B ∧ a2.block < B ∧ a3.block < B) (hc : Chg S W W') (hs : ∀ i, i < B → ¬ S i) : Sent4 W' a0 a1 a2 a3 := by
  have hl := h.lts
  obtain ⟨lg0, lg1, lg2, lg3, la0, la1, la2, la3⟩ := hl
  obtain ⟨bg0, bg1, bg2, bg3, ba0, ba1, ba2, ba3⟩ := hB
  obtain ⟨h0, h1, h2, h3, n01, n02, n03, n12, n13, n23, ⟨c0, t0, k0⟩, ⟨c1, t1, k1⟩, ⟨c2, t2, k2⟩, ⟨c3, t3, k3⟩⟩ := h
  exact ⟨(hc.cell (p := ⟨3, 0, none⟩) lg0 (hs _ bg0)).trans h0, (hc.cell (p := ⟨2, 0, none⟩) lg1 (hs _ bg1)).trans h1, (hc.cell (p := ⟨0, 0, none⟩) lg2 (hs _ bg2)).trans h2, (hc.cell (p := ⟨1, 0, none⟩) lg3 (hs _ bg3)).trans h3, n01, n02, n03, n12, n13, n23, ⟨c0, t0, (hc.block _ la0 (hs _ ba0)).trans k0⟩, ⟨c1, t1, (hc.block _ la1 (hs _ ba1)).trans k1⟩, ⟨c2, t2, (hc.block _ la2 (hs _ ba2)).trans k2⟩, ⟨c3, t3, (hc.block _ la3 (hs _ ba3)).trans k3⟩⟩
theorem Sent4.keep {W W' : World} {a0 a1 a2 a3 : Addr} (h : Sent4 W a0 a1 a2 a3) (hc : Chg NoB W W') : Sent4 W' a0 a1 a2 a3 := h.chg h.lts hc (fun _ _ e => e)
set_option maxRecDepth 100000 in
theorem sent_of_laid4 {W : World} (h : laidMet Tryd.prog [("io.ErrShortWrite", Rows.laid_io_ErrShortWrite), ("io.errInvalidWrite", Rows.laid_io_errInvalidWrite), ("io.EOF", Rows.laid_io_EOF), ("io.ErrUnexpectedEOF", Rows.laid_io_ErrUnexpectedEOF)] W) : ∃ a0 a1 a2 a3, Sent4 W a0 a1 a2 a3 := by
  obtain ⟨ps, ⟨g0, y0, cs0, f0, p0, q0, hg0, ht0, hv0, hd0, ⟨g1, y1, cs1, f1, p1, q1, hg1, ht1, hv1, hd1, ⟨g2, y2, cs2, f2, p2, q2, hg2, ht2, hv2, hd2, ⟨g3, y3, cs3, f3, p3, q3, hg3, ht3, hv3, hd3, hq3, e3⟩, e2⟩, e1⟩, e0⟩, hnd, hrows⟩ := h
  obtain rfl := Option.some.inj (gName0.symm.trans hg0)
  obtain rfl := Option.some.inj (gName1.symm.trans hg1)
  obtain rfl := Option.some.inj (gName2.symm.trans hg2)
  obtain rfl := Option.some.inj (gName3.symm.trans hg3)
  obtain rfl := Option.some.inj (gType0.symm.trans ht0)
  obtain rfl := Option.some.inj (gType1.symm.trans ht1)
  obtain rfl := Option.some.inj (gType2.symm.trans ht2)
  obtain rfl := Option.some.inj (gType3.symm.trans ht3)
  have hq' : q3 = [] := hq3
  subst hq'
  subst e3
  subst e2
  subst e1
  subst e0
  obtain ⟨l0⟩ := cs0
  obtain ⟨l1⟩ := cs1
  obtain ⟨l2⟩ := cs2
  obtain ⟨l3⟩ := cs3
  have ok0 : ∀ u v, l0 = [.iface u v] → Value.okWide Tryd.prog W .any 0 u v := fun u v e => by
    subst e
    exact (hrows 3 0 (by simp [MemPlace.row])).2 u v (by simpa using World.var?_cell hg0 hv0 0)
  have ok1 : ∀ u v, l1 = [.iface u v] → Value.okWide Tryd.prog W .any 0 u v := fun u v e => by
    subst e
    exact (hrows 2 0 (by simp [MemPlace.row])).2 u v (by simpa using World.var?_cell hg1 hv1 0)
  have ok2 : ∀ u v, l2 = [.iface u v] → Value.okWide Tryd.prog W .any 0 u v := fun u v e => by
    subst e
    exact (hrows 0 0 (by simp [MemPlace.row])).2 u v (by simpa using World.var?_cell hg2 hv2 0)
  have ok3 : ∀ u v, l3 = [.iface u v] → Value.okWide Tryd.prog W .any 0 u v := fun u v e => by
    subst e
    exact (hrows 1 0 (by simp [MemPlace.row])).2 u v (by simpa using World.var?_cell hg3 hv3 0)
  obtain ⟨a0, s0, rfl, hc0, hs0, hz0, rfl⟩ := errorString_of_trod Tryd.underlying38 rowEs Tryd.underlying88 Tryd.underlying109 rfl rfl Tryd.underlying9 cellsEs cellsStr hd0 ok0
  obtain ⟨a1, s1, rfl, hc1, hs1, hz1, rfl⟩ := errorString_of_trod Tryd.underlying38 rowEs Tryd.underlying88 Tryd.underlying109 rfl rfl Tryd.underlying9 cellsEs cellsStr hd1 ok1
  obtain ⟨a2, s2, rfl, hc2, hs2, hz2, rfl⟩ := errorString_of_trod Tryd.underlying38 rowEs Tryd.underlying88 Tryd.underlying109 rfl rfl Tryd.underlying9 cellsEs cellsStr hd2 ok2
  obtain ⟨a3, s3, rfl, hc3, hs3, hz3, rfl⟩ := errorString_of_trod Tryd.underlying38 rowEs Tryd.underlying88 Tryd.underlying109 rfl rfl Tryd.underlying9 cellsEs cellsStr hd3 ok3
  obtain ⟨c0, t0, hb0⟩ := (hrows a0.block a0.off (by simp [MemPlace.row])).1
  obtain ⟨c1, t1, hb1⟩ := (hrows a1.block a1.off (by simp [MemPlace.row])).1
  obtain ⟨c2, t2, hb2⟩ := (hrows a2.block a2.off (by simp [MemPlace.row])).1
  obtain ⟨c3, t3, hb3⟩ := (hrows a3.block a3.off (by simp [MemPlace.row])).1
  refine ⟨a0, a1, a2, a3, by simpa using World.var?_cell gName0 hv0 0, by simpa using World.var?_cell gName1 hv1 0, by simpa using World.var?_cell gName2 hv2 0, by simpa using World.var?_cell gName3 hv3 0, ?_, ?_, ?_, ?_, ?_, ?_, ⟨c0, t0, hb0⟩, ⟨c1, t1, hb1⟩, ⟨c2, t2, hb2⟩, ⟨c3, t3, hb3⟩⟩
  · rintro rfl
    simp [MemPlace.row] at hnd
  · rintro rfl
    simp [MemPlace.row] at hnd
  · rintro rfl
    simp [MemPlace.row] at hnd
  · rintro rfl
    simp [MemPlace.row] at hnd
  · rintro rfl
    simp [MemPlace.row] at hnd
  · rintro rfl
    simp [MemPlace.row] at hnd
set_option maxRecDepth 100000
noncomputable def low4 : Nat := (World.holding Tryd.prog default ⟨#[], #[], []⟩).heap.size
noncomputable def laidWorld4 (os : Os) : World :=
  let w0 := World.holding Tryd.prog os ⟨#[.cells #[.string { data := #[115, 104, 111, 114, 116, 32, 119, 114, 105, 116, 101] }] 109, .cells #[.string { data := #[105, 110, 118, 97, 108, 105, 100, 32, 119, 114, 105, 116, 101, 32, 114, 101, 115, 117, 108, 116] }] 109, .cells #[.string { data := #[69, 79, 70] }] 109, .cells #[.string { data := #[117, 110, 101, 120, 112, 101, 99, 116, 101, 100, 32, 69, 79, 70] }] 109], #[], []⟩
  { w0 with heap := ((((w0.heap.modify 3 fun
      | .cells _ t frozen => .cells #[.iface 88 (.pointer (some ⟨low4 + 0, 0, none⟩))] t frozen
      | o => o).modify 2 fun
      | .cells _ t frozen => .cells #[.iface 88 (.pointer (some ⟨low4 + 1, 0, none⟩))] t frozen
      | o => o).modify 0 fun
      | .cells _ t frozen => .cells #[.iface 88 (.pointer (some ⟨low4 + 2, 0, none⟩))] t frozen
      | o => o).modify 1 fun
      | .cells _ t frozen => .cells #[.iface 88 (.pointer (some ⟨low4 + 3, 0, none⟩))] t frozen
      | o => o) }
theorem laidWorld4_met (os : Os) (args : Array Value) : laidMet Tryd.prog [("io.ErrShortWrite", Rows.laid_io_ErrShortWrite), ("io.errInvalidWrite", Rows.laid_io_errInvalidWrite), ("io.EOF", Rows.laid_io_EOF), ("io.ErrUnexpectedEOF", Rows.laid_io_ErrUnexpectedEOF)] ((laidWorld4 os).forCall (fun _ _ => 0) ⟨#[], args, []⟩).memory :=
  laidMet_of_run (ps := [.cell 3 0, .cell (low4 + 0) 0, .cell 2 0, .cell (low4 + 1) 0, .cell 0 0, .cell (low4 + 2) 0, .cell 1 0, .cell (low4 + 3) 0]) 8 (by kernel_rfl) (by kernel_rfl) (by kernel_rfl)
end Go.Proofs.YtalbaapbiopamaaDoor
