/- The contract of big.Int's Mod of a number by another, into itself. -/
import Derived.Test.YthnebljgnmggaaaDoorBgK
import Derived.Test.YthnebljgnmggaaaDoorBgF
set_option linter.unusedVariables false
set_option linter.unusedSimpArgs false
namespace Go.Proofs.YthnebljgnmggaaaDoor
open Go.RowKit V
attribute [local irreducible] wpStill
set_option maxRecDepth 100000 in
set_option maxHeartbeats 4000000 in
theorem Mod_any {w : World} {base base' Z Y a y : Nat} {FZ FY : Nat → Prop} (hz : It w base Z FZ a) (hy : It w base' Y FY y) (hap : ∀ b, FZ b → ¬ FY b) (hb : base ≤ w.heap.size) (hl : 2 ≤ y) (hl2 : y < 18446744073709551616) :
    Calls Tryd.prog 14 #[.pointer (some ⟨Z, 0, none⟩), .pointer (some ⟨Z, 0, none⟩), .pointer (some ⟨Y, 0, none⟩)] w fun e w' => e = .returned (.pointer (some ⟨Z, 0, none⟩)) ∧ SetI w base Z FZ (a % y) w' := by
  obtain ⟨vz, hBz, hnz, hnez, hFz⟩ := hz.ex
  obtain ⟨vy, hBy, hny, hney, hFy⟩ := hy.ex
  have hZY : Z ≠ Y := fun e => hap Z ((hFz Z).2 (.inl rfl)) ((hFy Z).2 (.inl e))
  have HE := fun q : Nat => eqlI_apart (w := w.drewN q) (a := ⟨Z, 0, none⟩) (b := ⟨Y, 0, none⟩) hBz hBy (fun e => hZY (by injection e))
  have z1 := hBz.cell 1
  have y1 := hBy.cell 1
  simp only [List.getElem?_cons_zero, List.getElem?_cons_succ] at z1 y1
  have HL := As.mk (fun q : Nat => alias_no (hnz.keep ((Chg.refl _ w).drewN q)).st (hny.keep ((Chg.refl _ w).drewN q)).st (fun b e e2 => hap b ((hFz b).2 (.inr e)) ((hFy b).2 (.inr e2))))
  have HZ := As.mk (And.intro hz (And.intro hy (And.intro hap hb)))
  have HY := As.mk (And.intro hl hl2)
  obtain ⟨p, hp⟩ : ∃ p, p = a % y := ⟨_, rfl⟩
  have H := fun (w' : World) (Q : Nat) h1 h2 h3 h4 h5 h6 h7 => QuoRem_any (w := w') (base := base) (base' := base') (Q := Q) (Z := Z) (Y := Y) (a := a) (y := y) (FZ := FZ) (FY := FY) h1 h2 h3 h4 h5 h6 h7 hl2
  rw [← hp] at H ⊢
  have H := As.mk H
  clear hz hy hap hb hl hl2 hp hBz hnz hnez hFz hBy hny hney hFy
  go_enter Tryd.func14, Tryd.ntmps14
  go_wp2_with fail
  go_quiet (exact Calls.quiet_of (HL.out _))
  go_wp2_with fail
  have hc1 : Chg NoB w ((w.drewN nq).alloc (.cells #[.bool false, .slice none 0 0] 42)) := ((Chg.refl _ w).drewN nq).alloc _
  have hsz : ((w.drewN nq).alloc (.cells #[.bool false, .slice none 0 0] 42)).heap.size = w.heap.size + 1 := Array.size_push _
  refine (H.out _ w.heap.size (Blk.new (w.drewN nq) _ [.bool false, .slice none 0 0]) (HZ.out.1.keep hc1) (HZ.out.2.1.keep hc1) HZ.out.2.2.1 ⟨fun e => Nat.lt_irrefl _ (HZ.out.1.lt _ e), fun e => Nat.lt_irrefl _ (HZ.out.2.1.lt _ e)⟩ (Nat.le_trans HZ.out.2.2.2 hc1.size) HY.out.1).mono ?_
  rintro e1 w1 ⟨rfl, F', hI, hc, hg⟩
  obtain ⟨v', hB', hrest⟩ := hI.ex
  have b0 := hB'.cell 0
  simp only [List.getElem?_cons_zero] at b0
  have FIN : As (SetI w base Z FZ p w1) := ⟨F', hI, (hc1.mono (fun _ _ e => e.elim)).trans hc (fun b hb e => e.elim id (fun e => absurd hb (by omega))), fun b e => (hg b e).imp id (fun h => by omega)⟩
  clear hI hc hg hB' hrest hc1 hsz
  go_wp2_with fail
  go_ret
  exact ⟨rfl, FIN.out⟩
end Go.Proofs.YthnebljgnmggaaaDoor
