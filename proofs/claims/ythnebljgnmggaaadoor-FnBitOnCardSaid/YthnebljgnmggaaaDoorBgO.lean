/- The contract of big.Int's Add of a number and another, into the first. -/
import Derived.Test.YthnebljgnmggaaaDoorBgI
import Derived.Test.YthnebljgnmggaaaDoorBgG
set_option linter.unusedVariables false
set_option linter.unusedSimpArgs false
namespace Go.Proofs.YthnebljgnmggaaaDoor
open Go.RowKit V
attribute [local irreducible] wpStill
set_option maxRecDepth 100000 in
set_option maxHeartbeats 8000000 in
theorem Add_any {w : World} {base base' Z Y a y : Nat} {FZ FY : Nat → Prop} (hz : It w base Z FZ a) (hy : It w base' Y FY y) (hap : ∀ b, FZ b → ¬ FY b) (hb : base ≤ w.heap.size) (h : a + y < 18446744073709551616) :
    Calls Tryd.prog 15 #[.pointer (some ⟨Z, 0, none⟩), .pointer (some ⟨Z, 0, none⟩), .pointer (some ⟨Y, 0, none⟩)] w fun e w' => e = .returned (.pointer (some ⟨Z, 0, none⟩)) ∧ SetI w base Z FZ (a + y) w' := by
  obtain ⟨vz, hBz, hnz, hnez, hFz⟩ := hz.ex
  obtain ⟨vy, hBy, hny, hney, hFy⟩ := hy.ex
  have z0 := hBz.cell 0
  have y0 := hBy.cell 0
  simp only [List.getElem?_cons_zero] at z0 y0
  have HZ := As.mk (And.intro hBz (And.intro hnz (And.intro hnez hFz)))
  have HY := As.mk (And.intro hBy (And.intro hny hb))
  obtain ⟨Az, nz, cz, rfl, _⟩ := hnz.form
  obtain ⟨Ay, ny, cy, rfl, _⟩ := hny.form
  obtain ⟨p, hp⟩ : ∃ p, p = a + y := ⟨_, rfl⟩
  have H := fun (w' : World) h1 h2 h3 h4 => addN_any (w := w') (base := base) (base' := base) (base2 := base') (z := .slice Az nz cz) (v := .slice Az nz cz) (u := .slice Ay ny cy) (x := a) (y := y) h1 h2 h3 h4 h
  rw [← hp] at H ⊢
  have H := As.mk H
  clear hz hy hap hb h hp hBz hnz hnez hFz hBy hny hney hFy
  go_enter Tryd.func15, Tryd.ntmps15
  go_wp2_with fail
  go_quiet (fail)
  obtain ⟨wq, hwq⟩ : ∃ wq, wq = w.drewN nq := ⟨_, rfl⟩
  have HW : As (Chg NoB w wq) := ⟨hwq ▸ (Chg.refl _ w).drewN nq⟩
  have HBz := HZ.out.1.chg HW.out (fun e => e)
  have HBy := HY.out.1.chg HW.out (fun e => e)
  have HNz := As.mk (HZ.out.2.1.keep HW.out)
  have HNy := As.mk (HY.out.2.1.keep HW.out)
  rw [← hwq]
  clear hwq z0 y0
  have z0 := HBz.cell 0
  have z1 := HBz.cell 1
  have x1 := HBy.cell 1
  simp only [List.getElem?_cons_zero, List.getElem?_cons_succ] at z0 z1 x1
  have HBz := As.mk HBz
  clear HBy
  go_wp2_with fail
  go_region_law (first
    | (go_simp
       refine (H.out wq.drew (HNz.out.keep ((Chg.refl _ _).drew)).st (Nat.le_trans HY.out.2.2 HW.out.size) (HNz.out.keep ((Chg.refl _ _).drew)) (HNy.out.keep ((Chg.refl _ _).drew))).mono ?_
       rintro e21 w21 ⟨v21, rfl, hn21, hc21, ho21⟩
       obtain ⟨A21, n21, c21, hv21, hn⟩ := hn21.form
       subst hv21
       have N21 := As.mk (And.intro hn21 (And.intro hc21 (And.intro ho21 hn)))
       have hb21 := HBz.out.drew.chg hc21 (fun e => HZ.out.2.2.1 e)
       have B21 := As.mk hb21
       have y1 := hb21.cell 1
       have y1f := hb21.frozen 1
       simp only [List.getElem?_cons_zero, List.getElem?_cons_succ] at y1
       clear hn21 hc21 ho21 hb21 hn))
  all_goals
    have bz := B21.out.set_ 1 (.slice A21 n21 c21)
    have FIN := As.mk (SetI.mk_ (w := wq) HBz.out HZ.out.2.2.1 HZ.out.2.2.2 N21.out.1 ((Chg.refl _ _).drew.trans N21.out.2.1 (fun _ _ e => e)) N21.out.2.2.1)
    have hn : n21 = 0 ∨ n21 = 1 := by have := N21.out.2.2.2; omega
    have z0' := bz.cell 0
    have z1' := bz.cell 1
    have zf := bz.frozen 0
    simp only [List.getElem?_cons_zero, List.getElem?_cons_succ, List.set_cons_succ, List.set_cons_zero] at z0' z1'
    clear bz y1 y1f B21 N21 z0 z1 x1 HNz HNy HBz
    generalize w21.setCell ⟨Z, 1, none⟩ (.slice A21 n21 c21) = wc at *
    rcases hn with rfl | rfl
    all_goals
      go_wp2_with fail
      go_ret
      refine ⟨rfl, ?_⟩
      obtain ⟨F', h1, h2, h3⟩ := FIN.out
      exact ⟨F', h1, (HW.out.mono (fun _ _ e => e.elim)).trans h2 (fun _ _ e => e), fun b e => (h3 b e).imp id (Nat.le_trans HW.out.size)⟩
end Go.Proofs.YthnebljgnmggaaaDoor
