/- The contract of spec.ReadStretcher at the GNU extension. (Printed by wip/s2k.py.) -/
import Derived.Test.YthambncffcphkaaDoorStretch
set_option linter.unusedVariables false
set_option linter.unusedSimpArgs false
namespace Go.Proofs.YthambncffcphkaaDoor
open Go.RowKit V
def GnuOf (w : World) (h : Int) (e : Ending) (w' : World) : Prop := StrBad w e w' ∨ StrOf w 101 h [] 0 0 0 0 6 e w'
theorem gnu_bad {w w' : World} {h : Int} {e : Ending} (x : StrBad w e w') : GnuOf w h e w' := .inl x
theorem gnu_ok {w w' : World} {h : Int} {e : Ending} (x : StrOf w 101 h [] 0 0 0 0 6 e w') : GnuOf w h e w' := .inr x
set_option maxRecDepth 100000 in
set_option maxHeartbeats 1000000 in
theorem stretch_101 (A : Option Addr) (L c : Nat) (xs : List Int) (w : World) (hn : L = xs.length) (hnc : L ≤ c) (hx : Rb w A xs) (hb : Byt xs) (hl : L ≤ 1048576) (hk : rd xs 0 = 101) (h2 : 6 ≤ L) :
    Calls Tryd.prog 8 #[.slice A L c] w (GnuOf w (rd xs 1)) := by
  have HX := As.mk hx
  have HN := As.mk hn
  have HBY := As.mk hb
  clear hx hn hb
  obtain ⟨a0, rfl, _⟩ := HX.out.at_ 0 (by omega) (by have := HN.out; omega)
  have HCA : As (∀ w', Chg NoB w w' → ∀ i : Nat, i < L → w'.cell? (a0.add i) = some (.int .u8 (rd xs i))) := ⟨fun w' hc i hi => by
    obtain ⟨ad, e, hc⟩ := (HX.out.keep hc).at_ (i : Int) (by omega) (by have := HN.out; omega)
    injection e with e
    subst e
    simpa using hc⟩
  have hLz : ((L : Int) == 0) = false := by simp; omega
  have hLp : (0 : Int) < (L : Int) := by omega
  have hcA : ∀ o, (w.alloc o).cell? a0 = some (.int .u8 101) := fun o => by
    have := HCA.out (w.alloc o) ((Chg.refl _ _).alloc o) 0 (by omega)
    rw [show rd xs ((0 : Nat) : Int) = 101 from hk] at this
    simpa [Addr.add] using this
  have h2L : ¬ (L : Int) < 6 := by omega
  have hl1 : (1 : Int) < (L : Int) := by omega
  have hl5 : (5 : Int) < (L : Int) := by omega
  have hb10 := (HBY.out.rd 1).1
  have hb11 := (HBY.out.rd 1).2
  clear hk
  go_enter Tryd.func8, Tryd.ntmps8
  go_upto_region 24 with fail
  obtain ⟨w1, hw1⟩ : ∃ w1, w1 = w.alloc (.cells #[.int .i64 101, .int .i64 0, .slice none 0 0, .int .u8 0, .int .u8 0, .int .u8 0, .int .u8 0] 32) := ⟨_, rfl⟩
  have C1 : As (Chg NoB w w1) := ⟨by rw [hw1]; exact (Chg.refl NoB w).alloc _⟩
  have bg : Blk w1 w.heap.size 32 [.int .i64 101, .int .i64 0, .slice none 0 0, .int .u8 0, .int .u8 0, .int .u8 0, .int .u8 0] := by rw [hw1]; exact Blk.new w _ [.int .i64 101, .int .i64 0, .slice none 0 0, .int .u8 0, .int .u8 0, .int .u8 0, .int .u8 0]
  rw [← hw1]
  have BG := As.mk bg
  have HZ1 : As (w.heap.size + 1 ≤ w1.heap.size) := ⟨bg.lt⟩
  have x0 := bg.cell 0
  have x1 := bg.cell 1
  have x2 := bg.cell 2
  have x3 := bg.cell 3
  have x4 := bg.cell 4
  have x5 := bg.cell 5
  have x6 := bg.cell 6
  have xf0 := bg.frozen 0
  have xf1 := bg.frozen 1
  have xf2 := bg.frozen 2
  have xf3 := bg.frozen 3
  have xf4 := bg.frozen 4
  have xf5 := bg.frozen 5
  have xf6 := bg.frozen 6
  simp only [List.getElem?_cons_zero, List.getElem?_cons_succ] at x0 x1 x2 x3 x4 x5 x6
  clear hw1 bg hcA
  have HQ1 : As (∀ w', Chg NoB w w' → w'.cell? ⟨a0.block, a0.off + 1, none⟩ = some (.int .u8 (rd xs 1))) := ⟨fun w' h => by
    have := HCA.out w' h 1 (by omega)
    simpa [Addr.add] using this⟩
  have HQ5 : As (∀ w', Chg NoB w w' → w'.cell? ⟨a0.block, a0.off + 5, none⟩ = some (.int .u8 (rd xs 5))) := ⟨fun w' h => by
    have := HCA.out w' h 5 (by omega)
    simpa [Addr.add] using this⟩
  have hq1 := HQ1.out _ C1.out
  have hq5 := HQ5.out _ C1.out
  have hconv := run_convert_bytes_arg (P := Tryd.prog) w1 22 5 Tryd.underlying22 Tryd.underlying5 a0.block (a0.off + 2) 3 (c - 2) [rd xs 2, rd xs 3, rd xs 4] rfl (fun i hi => by
    have := HCA.out w1 C1.out (i + 2) (by omega)
    rw [show a0.add (i + 2) = ⟨a0.block, a0.off + 2 + i, none⟩ from by unfold Addr.add; rw [if_neg (by omega)]; simp [Nat.add_comm i 2, Nat.add_assoc]] at this
    rw [this]
    have h3 : i = 0 ∨ i = 1 ∨ i = 2 := by omega
    rcases h3 with rfl | rfl | rfl <;> simp) 9 Tryd.underlying9
  generalize strOfNums [rd xs 2, rd xs 3, rd xs 4] = G at *
  generalize rd xs 5 = f5 at *
  generalize rd xs 1 = f1 at *
  clear HCA
  by_cases hg : (G.toList == [71, 78, 85]) = true
  · by_cases h5 : (f5 != 1) = true
    · go_wp2_with fail
      refine bodyPost_ret (v := .tuple #[.agg #[.int .i64 0, .int .i64 0, .slice none 0 0, .int .u8 0, .int .u8 0, .int .u8 0, .int .u8 0], .int .i64 0, .int .i64 2]) ?_ rfl (gnu_bad ⟨by repeat (first | (with_reducible exact C1.out) | (refine Chg.setCell ?_ _ (fun h => absurd h (Nat.lt_irrefl _)))), 2, by decide, rfl⟩)
      · rw [results_cell_tmp2 rfl]
        go_simp
    · have h5' : (f5 != 1) = false := by simpa using h5
      clear h5
      go_wp2_with fail
      have hfin := Chg.setCell (Chg.setCell (Chg.setCell (Chg.setCell (Chg.setCell (Chg.setCell (Chg.setCell (Chg.setCell (Chg.refl (fun b => b = w.heap.size) w1) (p := ⟨w.heap.size, 1, none⟩) (.int .i64 f1) (fun _ => rfl)) (p := ⟨w.heap.size, 0, none⟩) (.int .i64 101) (fun _ => rfl)) (p := ⟨w.heap.size, 1, none⟩) (.int .i64 f1) (fun _ => rfl)) (p := ⟨w.heap.size, 2, none⟩) (.slice none 0 0) (fun _ => rfl)) (p := ⟨w.heap.size, 3, none⟩) (.int .u8 0) (fun _ => rfl)) (p := ⟨w.heap.size, 4, none⟩) (.int .u8 0) (fun _ => rfl)) (p := ⟨w.heap.size, 5, none⟩) (.int .u8 0) (fun _ => rfl)) (p := ⟨w.heap.size, 6, none⟩) (.int .u8 0) (fun _ => rfl)
      have bf : Blk _ w.heap.size 32 [.int .i64 101, .int .i64 f1, .slice none 0 0, .int .u8 0, .int .u8 0, .int .u8 0, .int .u8 0] := ((((((((BG.out).set_ 1 (.int .i64 f1)).set_ 0 (.int .i64 101)).set_ 1 (.int .i64 f1)).set_ 2 (.slice none 0 0)).set_ 3 (.int .u8 0)).set_ 4 (.int .u8 0)).set_ 5 (.int .u8 0)).set_ 6 (.int .u8 0)
      generalize ((((((((w1).setCell ⟨w.heap.size, 1, none⟩ (.int .i64 f1)).setCell ⟨w.heap.size, 0, none⟩ (.int .i64 101)).setCell ⟨w.heap.size, 1, none⟩ (.int .i64 f1)).setCell ⟨w.heap.size, 2, none⟩ (.slice none 0 0)).setCell ⟨w.heap.size, 3, none⟩ (.int .u8 0)).setCell ⟨w.heap.size, 4, none⟩ (.int .u8 0)).setCell ⟨w.heap.size, 5, none⟩ (.int .u8 0)).setCell ⟨w.heap.size, 6, none⟩ (.int .u8 0) = wf at *
      have t0 := bf.cell 0
      have t1 := bf.cell 1
      have t2 := bf.cell 2
      have t3 := bf.cell 3
      have t4 := bf.cell 4
      have t5 := bf.cell 5
      have t6 := bf.cell 6
      have tf0 := bf.frozen 0
      have tf1 := bf.frozen 1
      have tf2 := bf.frozen 2
      have tf3 := bf.frozen 3
      have tf4 := bf.frozen 4
      have tf5 := bf.frozen 5
      have tf6 := bf.frozen 6
      simp only [List.getElem?_cons_zero, List.getElem?_cons_succ] at t0 t1 t2 t3 t4 t5 t6
      clear bf
      refine bodyPost_ret (v := .tuple #[.agg #[.int .i64 101, .int .i64 f1, .slice none 0 0, .int .u8 0, .int .u8 0, .int .u8 0, .int .u8 0], .int .i64 6, .int .i64 0]) ?_ rfl (gnu_ok ⟨(C1.out).trans (S' := fun b => b = w.heap.size) hfin (fun i hi e => by omega), _, _, _, ?_, rfl, ?_⟩)
      · rw [results_cell_tmp2 rfl]
        go_simp
      · rfl
      · exact Rk.none_
  · have hg' : (G.toList == [71, 78, 85]) = false := by simpa using hg
    clear hg
    go_wp2_with fail
    refine bodyPost_ret (v := .tuple #[.agg #[.int .i64 0, .int .i64 0, .slice none 0 0, .int .u8 0, .int .u8 0, .int .u8 0, .int .u8 0], .int .i64 0, .int .i64 2]) ?_ rfl (gnu_bad ⟨by repeat (first | (with_reducible exact C1.out) | (refine Chg.setCell ?_ _ (fun h => absurd h (Nat.lt_irrefl _)))), 2, by decide, rfl⟩)
    · rw [results_cell_tmp2 rfl]
      go_simp
end Go.Proofs.YthambncffcphkaaDoor
