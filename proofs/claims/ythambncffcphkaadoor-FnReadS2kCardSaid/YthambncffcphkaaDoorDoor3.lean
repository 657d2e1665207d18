/- The two sentinels of XDoor where io.ErrShortBuffer is laid ahead of them. -/
import Derived.Test.YthambncffcphkaaDoorDoor
set_option linter.unusedVariables false
set_option linter.unusedSimpArgs false
namespace Go.Proofs.YthambncffcphkaaDoor
open Go.ChangeShapes Go.WideShapes Go.RowKit V
set_option maxRecDepth 100000 in
theorem sent_of_laid3 {W : World} (h : laidMet Tryd.prog [("io.ErrShortBuffer", Rows.laid_io_ErrShortBuffer), ("io.EOF", Rows.laid_io_EOF), ("io.ErrUnexpectedEOF", Rows.laid_io_ErrUnexpectedEOF)] W) : ∃ a0 a1, Sent W a0 a1 := by
  obtain ⟨ps, ⟨gS, tS, csS, fS, pS, qS, hgS, htS, hvS, hdS, ⟨g0, t0, cs0, f0, p0, q0, hg0, ht0, hv0, hd0, ⟨g1, t1, cs1, f1, p1, q1, hg1, ht1, hv1, hd1, hq1, e1⟩, e0⟩, eS⟩, hnd, hrows⟩ := h
  obtain rfl := Option.some.inj (gEof.symm.trans hg0)
  obtain rfl := Option.some.inj (gCut.symm.trans hg1)
  obtain rfl := Option.some.inj (gEofType.symm.trans ht0)
  obtain rfl := Option.some.inj (gCutType.symm.trans ht1)
  have hq1' : q1 = [] := hq1
  subst hq1'
  subst e1
  subst e0
  subst eS
  obtain ⟨l0⟩ := cs0
  obtain ⟨l1⟩ := cs1
  have ok0 : ∀ u v, l0 = [.iface u v] → Value.okWide Tryd.prog W .any 0 u v := fun u v e => by
    subst e
    exact (hrows 0 0 (by simp [MemPlace.row])).2 u v (by simpa using World.var?_cell hg0 hv0 0)
  have ok1 : ∀ u v, l1 = [.iface u v] → Value.okWide Tryd.prog W .any 0 u v := fun u v e => by
    subst e
    exact (hrows 1 0 (by simp [MemPlace.row])).2 u v (by simpa using World.var?_cell hg1 hv1 0)
  obtain ⟨a0, s0, rfl, hc0, hs0, hz0, rfl⟩ := errorString_of_trod Tryd.underlying44 rowEs Tryd.underlying95 Tryd.underlying115 rfl rfl Tryd.underlying9 cellsEs cellsStr hd0 ok0
  obtain ⟨a1, s1, rfl, hc1, hs1, hz1, rfl⟩ := errorString_of_trod Tryd.underlying44 rowEs Tryd.underlying95 Tryd.underlying115 rfl rfl Tryd.underlying9 cellsEs cellsStr hd1 ok1
  obtain ⟨c0, t0, hb0⟩ := (hrows a0.block a0.off (by simp [MemPlace.row])).1
  obtain ⟨c1, t1, hb1⟩ := (hrows a1.block a1.off (by simp [MemPlace.row])).1
  refine ⟨a0, a1, by simpa using World.var?_cell gEof hv0 0, by simpa using World.var?_cell gCut hv1 0, ?_, ⟨c0, t0, hb0⟩, ⟨c1, t1, hb1⟩⟩
  rintro rfl
  simp [MemPlace.row] at hnd
  have h2 := (List.nodup_append.1 (List.nodup_append.1 hnd).2.1).2.1
  simp at h2

set_option maxRecDepth 100000
abbrev shortS : ByteArray := { data := #[115, 104, 111, 114, 116, 32, 98, 117, 102, 102, 101, 114] }
noncomputable def low3 : Nat := (World.holding Tryd.prog default ⟨#[], #[], []⟩).heap.size
noncomputable def laidWorld3 (os : Os) : World :=
  let w0 := World.holding Tryd.prog os ⟨#[.cells #[.string eofS] 115, .cells #[.string cutS] 115, .cells #[.string shortS] 115], #[], []⟩
  { w0 with heap := ((w0.heap.modify 0 fun
      | .cells _ t frozen => .cells #[.iface 95 (.pointer (some ⟨low3, 0, none⟩))] t frozen
      | o => o).modify 1 fun
      | .cells _ t frozen => .cells #[.iface 95 (.pointer (some ⟨low3 + 1, 0, none⟩))] t frozen
      | o => o).modify 2 fun
      | .cells _ t frozen => .cells #[.iface 95 (.pointer (some ⟨low3 + 2, 0, none⟩))] t frozen
      | o => o }
theorem laidWorld3_met (os : Os) (args : Array Value) : laidMet Tryd.prog [("io.ErrShortBuffer", Rows.laid_io_ErrShortBuffer), ("io.EOF", Rows.laid_io_EOF), ("io.ErrUnexpectedEOF", Rows.laid_io_ErrUnexpectedEOF)] ((laidWorld3 os).forCall (fun _ _ => 0) ⟨#[], args, []⟩).memory :=
  laidMet_of_run (ps := [.cell 2 0, .cell (low3 + 2) 0, .cell 0 0, .cell low3 0, .cell 1 0, .cell (low3 + 1) 0]) 8 (by kernel_rfl) (by kernel_rfl) (by kernel_rfl)
end Go.Proofs.YthambncffcphkaaDoor
