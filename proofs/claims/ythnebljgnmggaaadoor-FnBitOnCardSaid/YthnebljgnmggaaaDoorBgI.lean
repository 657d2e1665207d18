/- The contracts of big.Int's Mul, QuoRem, Mod, Add, Cmp for numbers of at most one word. -/
import Derived.Test.YthnebljgnmggaaaDoorBgG
import Derived.Test.YthnebljgnmggaaaDoorBgS
import Derived.Deep.RegionHeld3
set_option linter.unusedVariables false
set_option linter.unusedSimpArgs false
namespace Go.Proofs.YthnebljgnmggaaaDoor
open Go.RowKit V
attribute [local irreducible] wpStill
/-- A footprint that has grown into new blocks alone. -/
def Grew (F : Nat → Prop) (w : World) (F' : Nat → Prop) : Prop := ∀ b, F' b → F b ∨ w.heap.size ≤ b
/-- A number from 0 on, of at most one word, in an Int at I; its blocks are F. -/
structure It (w : World) (base I : Nat) (F : Nat → Prop) (x : Nat) : Prop where
  ex : ∃ v, Blk w I 42 [.bool false, v] ∧ Nq w base v x ∧ v.ownBlock ≠ some I ∧ ∀ b, F b ↔ b = I ∨ v.ownBlock = some b
theorem It.chg {w w' : World} {base I x : Nat} {F S : Nat → Prop} (h : It w base I F x) (hc : Chg S w w') (hs : ∀ b, F b → ¬ S b) : It w' base I F x := by
  obtain ⟨v, h1, h2, h3, h4⟩ := h.ex
  exact ⟨v, h1.chg hc (hs _ ((h4 _).2 (.inl rfl))), h2.chg hc (fun b e => hs b ((h4 b).2 (.inr e))), h3, h4⟩
theorem It.keep {w w' : World} {base I x : Nat} {F : Nat → Prop} (h : It w base I F x) (hc : Chg NoB w w') : It w' base I F x := h.chg hc (fun _ _ e => e)
theorem It.lt {w : World} {base I x : Nat} {F : Nat → Prop} (h : It w base I F x) : ∀ b, F b → b < w.heap.size := by
  obtain ⟨v, h1, h2, h3, h4⟩ := h.ex
  intro b hb
  rcases (h4 b).1 hb with rfl | e
  · exact h1.lt
  · exact (h2.lt b e).2
theorem It.at_ {w : World} {base I x : Nat} {F : Nat → Prop} (h : It w base I F x) : F I := by
  obtain ⟨v, h1, h2, h3, h4⟩ := h.ex
  exact (h4 I).2 (.inl rfl)
theorem Nq.form {w : World} {base : Nat} {v : Value} {x : Nat} (h : Nq w base v x) : ∃ A n c, v = .slice A n c ∧ (n = 0 ∧ x = 0 ∨ n = 1 ∧ 1 ≤ x) := by
  rcases h.cases with ⟨A, c, rfl, h2⟩ | ⟨g, c, l, rfl, _, _, _, _, h2, _⟩
  · exact ⟨_, _, _, rfl, .inl ⟨rfl, h2⟩⟩
  · exact ⟨_, _, _, rfl, .inr ⟨rfl, h2⟩⟩
/-- What a method leaves that sets z: a number there. -/
def SetI (w : World) (base Z : Nat) (F : Nat → Prop) (x : Nat) (w' : World) : Prop := ∃ F', It w' base Z F' x ∧ Chg F w w' ∧ Grew F w F'
/-- z.abs is stored anew, z.neg is false. -/
theorem SetI.mk_ {w w1 : World} {base Z x : Nat} {F : Nat → Prop} {v v' : Value} (hB : Blk w Z 42 [.bool false, v]) (hne : v.ownBlock ≠ some Z) (hF : ∀ b, F b ↔ b = Z ∨ v.ownBlock = some b)
    (hn : Nq w1 base v' x) (hc : Chg (fun b => v.ownBlock = some b) w w1) (ho : ∀ b, v'.ownBlock = some b → v.ownBlock = some b ∨ w.heap.size ≤ b) :
    SetI w base Z F x ((w1.setCell ⟨Z, 1, none⟩ v').setCell ⟨Z, 0, none⟩ (.bool false)) := by
  have hZ := hB.lt
  have hne' : v'.ownBlock ≠ some Z := fun e => by
    rcases ho Z e with h | h
    · exact hne h
    · omega
  have b1 := hB.chg hc (fun e => hne e)
  have b2 := b1.set_ 1 v'
  have b3 := b2.set_ 0 (.bool false)
  have hst : Chg (fun b => b = Z) w1 ((w1.setCell ⟨Z, 1, none⟩ v').setCell ⟨Z, 0, none⟩ (.bool false)) := ((Chg.refl (fun b => b = Z) w1).setCell (p := ⟨Z, 1, none⟩) _ (fun _ => rfl)).setCell (p := ⟨Z, 0, none⟩) _ (fun _ => rfl)
  refine ⟨fun b => b = Z ∨ v'.ownBlock = some b, ⟨v', b3, hn.chg hst (fun b e h => hne' (by rw [← h]; exact e)), hne', fun b => Iff.rfl⟩, ?_, ?_⟩
  · exact (hc.mono (fun b _ e => (hF b).2 (.inr e))).trans hst (fun b _ e => (hF b).2 (.inl e))
  · rintro b (rfl | e)
    · exact .inl ((hF _).2 (.inl rfl))
    · rcases ho b e with h | h
      · exact .inl ((hF b).2 (.inr h))
      · exact .inr h
set_option maxRecDepth 100000 in
set_option maxHeartbeats 2000000 in
theorem mulSq_any {w : World} {base base' Z X a x : Nat} {FZ FX : Nat → Prop} (hz : It w base Z FZ a) (hx : It w base' X FX x) (hap : ∀ b, FZ b → ¬ FX b) (hb : base ≤ w.heap.size) (hb' : base ≤ base') (hl : x < 4294967296) :
    Calls Tryd.prog 18 #[.pointer (some ⟨Z, 0, none⟩), .pointer none, .pointer (some ⟨X, 0, none⟩), .pointer (some ⟨X, 0, none⟩)] w fun e w' => e = .returned (.tuple #[]) ∧ SetI w base Z FZ (x * x) w' := by
  obtain ⟨vz, hBz, hnz, hnez, hFz⟩ := hz.ex
  obtain ⟨vx, hBx, hnx, hnex, hFx⟩ := hx.ex
  have HZ := As.mk (And.intro hBz (And.intro hnz (And.intro hnez hFz)))
  have HX := As.mk (And.intro hBx (And.intro hnx (And.intro hnex hFx)))
  have HA := As.mk hap
  have HB := As.mk (And.intro hb hb')
  have heq := eqlI_same w ⟨X, 0, none⟩
  have z1 := hBz.cell 1
  have x1 := hBx.cell 1
  simp only [List.getElem?_cons_zero, List.getElem?_cons_succ] at z1 x1
  obtain ⟨Az, nz, cz, rfl, _⟩ := hnz.form
  obtain ⟨Ax, nx, cx, rfl, _⟩ := hnx.form
  clear hz hx hap hb hb' hBz hnz hnez hFz hBx hnx hnex hFx
  go_enter Tryd.func18, Tryd.ntmps18
  go_wp2_with fail
  go_region_law (first
    | (go_simp
       refine (sqr_any (base := base) (w := w.drew) (x := x) (HZ.out.2.1.keep ((Chg.refl _ _).drew)).st HB.out.1 ((HX.out.2.1.keep ((Chg.refl _ _).drew)).lower HB.out.2) hl).mono ?_
       rintro e21 w21 ⟨v21, rfl, hn21, hc21, ho21⟩
       obtain ⟨A21, n21, c21, hv21, _⟩ := hn21.form
       subst hv21
       have N21 := As.mk (And.intro hn21 (And.intro hc21 ho21))
       have hb21 := HZ.out.1.drew.chg hc21 (fun e => HZ.out.2.2.1 e)
       have y1 := hb21.cell 1
       have y1f := hb21.frozen 1
       have y0 := hb21.cell 0
       have y0f := hb21.frozen 0
       simp only [List.getElem?_cons_zero, List.getElem?_cons_succ] at y1 y0
       clear hn21 hc21 ho21 hb21))
  all_goals
    go_wp2_with fail
    first | go_end0 | refine bodyPost_ret (results_none rfl _ _ _) rfl ?_
    exact ⟨rfl, SetI.mk_ HZ.out.1 HZ.out.2.2.1 HZ.out.2.2.2 N21.out.1 ((Chg.refl _ _).drew.trans N21.out.2.1 (fun _ _ e => e)) N21.out.2.2⟩
theorem SetI.drew {w w' : World} {base Z x : Nat} {F : Nat → Prop} (h : SetI w base Z F x w') : SetI w base Z F x w'.drew := by
  obtain ⟨F', h1, h2, h3⟩ := h
  exact ⟨F', h1.keep ((Chg.refl _ _).drew), h2.drew, h3⟩
set_option maxRecDepth 100000 in
set_option maxHeartbeats 8000000 in
/-- mul of z by y, into z. -/
theorem mulIn_any {w : World} {base base' Z Y a y : Nat} {FZ FY : Nat → Prop} (hz : It w base Z FZ a) (hy : It w base' Y FY y) (hap : ∀ b, FZ b → ¬ FY b) (hb : base ≤ w.heap.size) (ha : a < 4294967296) (hl : y < 4294967296) :
    Calls Tryd.prog 18 #[.pointer (some ⟨Z, 0, none⟩), .pointer none, .pointer (some ⟨Z, 0, none⟩), .pointer (some ⟨Y, 0, none⟩)] w fun e w' => e = .returned (.tuple #[]) ∧ SetI w base Z FZ (a * y) w' := by
  obtain ⟨vz, hBz, hnz, hnez, hFz⟩ := hz.ex
  obtain ⟨vy, hBy, hny, hney, hFy⟩ := hy.ex
  have HZ := As.mk (And.intro hBz (And.intro hnz (And.intro hnez hFz)))
  have HY := As.mk (And.intro hBy (And.intro hny (And.intro hney hFy)))
  have HA := As.mk hap
  have HB := As.mk hb
  have hZY : Z ≠ Y := fun e => hap Z ((hFz Z).2 (.inl rfl)) ((hFy Z).2 (.inl e))
  have heq := eqlI_apart (w := w) (a := ⟨Z, 0, none⟩) (b := ⟨Y, 0, none⟩) hBz hBy (fun e => hZY (by injection e))
  have z0 := hBz.cell 0
  have z1 := hBz.cell 1
  have x0 := hBy.cell 0
  have x1 := hBy.cell 1
  simp only [List.getElem?_cons_zero, List.getElem?_cons_succ] at z0 z1 x0 x1
  obtain ⟨Az, nz, cz, rfl, _⟩ := hnz.form
  obtain ⟨Ay, ny, cy, rfl, _⟩ := hny.form
  have HYZ : As (∀ b, (Value.slice Az nz cz).ownBlock = some b → b ≠ Y ∧ (Value.slice Ay ny cy).ownBlock ≠ some b) := ⟨fun b e => ⟨fun h => hap b ((hFz b).2 (.inr e)) ((hFy b).2 (.inl h)), fun h => hap b ((hFz b).2 (.inr e)) ((hFy b).2 (.inr h))⟩⟩
  clear hz hy hap hb hBz hnz hnez hFz hBy hny hney hFy
  go_enter Tryd.func18, Tryd.ntmps18
  go_wp2_with fail
  go_region_law (first
    | (go_simp
       refine (mulN_any (base := base) (w := w.drew) (x := a) (y := y) (HZ.out.2.1.keep ((Chg.refl _ _).drew)).st HB.out (HZ.out.2.1.keep ((Chg.refl _ _).drew)) (HY.out.2.1.keep ((Chg.refl _ _).drew)) ha hl).mono ?_
       rintro e21 w21 ⟨v21, rfl, hn21, hc21, ho21⟩
       obtain ⟨A21, n21, c21, hv21, hn⟩ := hn21.form
       subst hv21
       have N21 := As.mk (And.intro hn21 (And.intro hc21 (And.intro ho21 hn)))
       have hb21 := HZ.out.1.drew.chg hc21 (fun e => HZ.out.2.2.1 e)
       have B21 := As.mk hb21
       have y1 := hb21.cell 1
       have y1f := hb21.frozen 1
       simp only [List.getElem?_cons_zero, List.getElem?_cons_succ] at y1
       clear hn21 hc21 ho21 hb21 hn))
  all_goals
    have hc2 : Chg (fun b => b = Z ∨ (Value.slice Az nz cz).ownBlock = some b) w (w21.setCell ⟨Z, 1, none⟩ (.slice A21 n21 c21)) := (((Chg.refl _ _).drew.trans N21.out.2.1 (fun _ _ e => .inr e))).setCell (p := ⟨Z, 1, none⟩) _ (fun _ => .inl rfl)
    have hY := (hc2.cell (p := ⟨Y, 0, none⟩) HY.out.1.lt (fun e => by rcases e with e | e; exact hZY e.symm; exact (HYZ.out Y e).1 rfl)).trans (HY.out.1.cell 0)
    have BY := As.mk hY
    have BZ := As.mk (B21.out.set_ 1 (.slice A21 n21 c21))
    have FIN := As.mk (SetI.mk_ HZ.out.1 HZ.out.2.2.1 HZ.out.2.2.2 N21.out.1 ((Chg.refl _ _).drew.trans N21.out.2.1 (fun _ _ e => e)) N21.out.2.2.1)
    have hn : n21 = 0 ∨ n21 = 1 := by have := N21.out.2.2.2; omega
    have z0' := BZ.out.cell 0
    have z1' := BZ.out.cell 1
    have zf := BZ.out.frozen 0
    have yy0 := BY.out
    simp only [List.getElem?_cons_zero, List.getElem?_cons_succ, List.set_cons_succ, List.set_cons_zero] at z0' z1' yy0 BY
    clear hc2 hY y1 y1f B21 N21 z0 z1 x0 x1 heq HZ HY
    generalize w21.setCell ⟨Z, 1, none⟩ (.slice A21 n21 c21) = wc at *
    rcases hn with rfl | rfl
    all_goals
      go_wp2_with fail
      go_still_tail 20, (by kernel_rfl)
      change wpList _ _ _ _ _ (World.drew wc)
      go_wp2_with fail
      first | go_end0 | refine bodyPost_ret (results_none rfl _ _ _) rfl ?_
      exact ⟨rfl, FIN.out.drew⟩
end Go.Proofs.YthnebljgnmggaaaDoor
