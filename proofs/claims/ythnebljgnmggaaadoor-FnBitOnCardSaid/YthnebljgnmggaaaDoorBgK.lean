/- The contract of big.Int's QuoRem where the remainder's number is the dividend. -/
import Derived.Test.YthnebljgnmggaaaDoorBgI
set_option linter.unusedVariables false
set_option linter.unusedSimpArgs false
namespace Go.Proofs.YthnebljgnmggaaaDoor
open Go.RowKit V
attribute [local irreducible] wpStill
/-- z has the remainder; q is stored as well. -/
def SetR (w : World) (base Q Z : Nat) (F : Nat → Prop) (x : Nat) (w' : World) : Prop := ∃ F', It w' base Z F' x ∧ Chg (fun b => F b ∨ b = Q) w w' ∧ Grew F w F'
theorem SetR.drew {w w' : World} {base Q Z x : Nat} {F : Nat → Prop} (h : SetR w base Q Z F x w') : SetR w base Q Z F x w'.drew := by
  obtain ⟨F', h1, h2, h3⟩ := h
  exact ⟨F', h1.keep ((Chg.refl _ _).drew), h2.drew, h3⟩
theorem setCell_noop {w : World} {g i : Nat} {t : TypeId} {cs : List Value} {v : Value} (h : Blk w g t cs) (hv : cs[i]? = some v) : w.setCell ⟨g, i, none⟩ v = w := by
  have hcs : cs.set i v = cs := by
    obtain ⟨hi, he⟩ := List.getElem?_eq_some_iff.1 hv
    rw [← he]
    exact List.set_getElem_self hi
  have e : (w.setCell ⟨g, i, none⟩ v).heap = w.heap := by
    apply Array.ext_getElem?
    intro k
    by_cases hk : k = g
    · rw [hk]
      have h2 := h.set_ i v
      rw [hcs] at h2
      exact Eq.trans h2 (Eq.symm h)
    · exact Below.heap_setCell w ⟨g, i, none⟩ v k hk
  exact congrArg (fun hp => ({ w with heap := hp } : World)) e
/-- A part of a code, by its path. -/
def codeOf : List Nat → Code → Code
  | [], c => c
  | i :: p, .seq a b => codeOf p (if i = 0 then a else b)
  | i :: p, .cond _ a b => codeOf p (if i = 0 then a else b)
  | _ :: p, .block _ c => codeOf p c
  | _ :: p, .loop c => codeOf p c
  | _ :: p, .scope c => codeOf p c
  | _ :: _, c => c
noncomputable def qrCode : Code := codeOf [1, 1] (Tryd.f21.body.getD .skip)
set_option maxRecDepth 100000 in
set_option maxHeartbeats 8000000 in
theorem quoRest {wc : World} {Q Z Y g2 d nz cz n21 c21 n22 c22 : Nat} {Az A21 A22 : Option Addr} {G : World → Prop}
    (z0 : wc.cell? ⟨Z, 0, none⟩ = some (.bool false)) (z1 : wc.cell? ⟨Z, 1, none⟩ = some (.slice A21 n21 c21)) (q0 : wc.cell? ⟨Q, 0, none⟩ = some (.bool false)) (q1 : wc.cell? ⟨Q, 1, none⟩ = some (.slice A22 n22 c22)) (y0 : wc.cell? ⟨Y, 0, none⟩ = some (.bool false)) (qf : wc.frozen? ⟨Q, 0, none⟩ = false) (zf : wc.frozen? ⟨Z, 0, none⟩ = false)
    (hsQ : As (wc.setCell ⟨Q, 0, none⟩ (.bool false) = wc)) (hsZ : As (wc.setCell ⟨Z, 0, none⟩ (.bool false) = wc)) (h1 : n21 = 0 ∨ n21 = 1) (h2 : n22 = 0 ∨ n22 = 1) (hfin : As (G wc.drew)) :
    qrCode.wp Tryd.prog (bodyPost Tryd.prog Tryd.f21 fun e w' => e = .returned (.tuple #[.pointer (some ⟨Q, 0, none⟩), .pointer (some ⟨Z, 0, none⟩)]) ∧ G w')
      ⟨#[.pointer (some ⟨Q, 0, none⟩), .pointer (some ⟨Z, 0, none⟩), .pointer (some ⟨Y, 0, none⟩), .pointer (some ⟨Z, 0, none⟩), undef, undef, undef, undef, .pointer none, .pointer none, .tuple #[.slice A22 n22 c22, .slice A21 n21 c21], .pointer (some ⟨Q, 0, none⟩), .pointer (some ⟨Z, 0, none⟩), .pointer (some ⟨Q, 0, none⟩), .pointer (some ⟨Q, 0, none⟩), .pointer (some ⟨Q, 1, none⟩), .slice none 0 0, .pointer (some ⟨Z, 0, none⟩), .pointer (some ⟨Z, 0, none⟩), .pointer (some ⟨Z, 1, none⟩), .slice Az nz cz, .pointer (some ⟨Z, 0, none⟩), .pointer (some ⟨Z, 0, none⟩), .pointer (some ⟨Z, 1, none⟩), .slice Az nz cz, .pointer (some ⟨Y, 0, none⟩), .pointer (some ⟨Y, 0, none⟩), .pointer (some ⟨Y, 1, none⟩), .slice (some ⟨g2, 0, none⟩) 1 d, .tuple #[.slice A22 n22 c22, .slice A21 n21 c21], .slice A22 n22 c22, .slice A21 n21 c21, .pointer (some ⟨Q, 0, none⟩), .pointer (some ⟨Q, 1, none⟩), .pointer (some ⟨Z, 0, none⟩), .pointer (some ⟨Z, 1, none⟩), undef, undef, undef, undef, undef, undef, undef, undef, undef, undef, undef, undef, undef, undef, undef, undef, undef, undef, undef, undef, undef, undef, undef, undef, undef, undef, undef, undef, undef, undef, undef, undef, undef, undef, undef, undef, undef], []⟩ wc := by
  conv => arg 2; whnf
  dsimp only
  rcases h1 with rfl | rfl <;> rcases h2 with rfl | rfl
  all_goals
    go_wp2_with fail
    refine wp_region_still_lit (by kernel_rfl) (by kernel_rfl) ?_
    repeat still_step
    refine wpStill_step (fun K hK => ?_)
    go_simp
    refine ⟨by rw [hsQ.out], hK _ ?_⟩
    clear hK K
    repeat still_step
    refine wpStill_step (fun K hK => ?_)
    go_simp
    refine ⟨by rw [hsZ.out], hK _ ?_⟩
    clear hK K
    refine wpStill_nil ?_
    change Exit.then _ _ Exit.normal _ (World.drew wc)
    go_wp2_with fail
    refine bodyPost_ret (results_tmp2 rfl _ _ _) rfl ?_
    exact ⟨rfl, hfin.out⟩
set_option maxRecDepth 100000 in
set_option maxHeartbeats 8000000 in
theorem QuoRem_any {w : World} {base base' Q Z Y a y : Nat} {FZ FY : Nat → Prop} (hq : Blk w Q 42 [.bool false, .slice none 0 0]) (hz : It w base Z FZ a) (hy : It w base' Y FY y) (hap : ∀ b, FZ b → ¬ FY b) (hQ : ¬ FZ Q ∧ ¬ FY Q) (hb : base ≤ w.heap.size) (hl : 2 ≤ y) (hl2 : y < 18446744073709551616) :
    Calls Tryd.prog 21 #[.pointer (some ⟨Q, 0, none⟩), .pointer (some ⟨Z, 0, none⟩), .pointer (some ⟨Y, 0, none⟩), .pointer (some ⟨Z, 0, none⟩)] w fun e w' => e = .returned (.tuple #[.pointer (some ⟨Q, 0, none⟩), .pointer (some ⟨Z, 0, none⟩)]) ∧ SetR w base Q Z FZ (a % y) w' := by
  obtain ⟨vz, hBz, hnz, hnez, hFz⟩ := hz.ex
  obtain ⟨vy, hBy, hny, hney, hFy⟩ := hy.ex
  rcases hny.cases with ⟨B, d, rfl, rfl⟩ | ⟨g2, d, l2, rfl, hg2, hB2, hl2', hd, hy1, hyy, h02⟩
  · omega
  have HZ := As.mk (And.intro hBz (And.intro hnz (And.intro hnez hFz)))
  have HY := As.mk (And.intro hBy (And.intro hB2 (And.intro hl2' (And.intro hd h02))))
  have HYF : As (FY Y ∧ FY g2) := ⟨(hFy Y).2 (.inl rfl), (hFy g2).2 (.inr rfl)⟩
  have HA := As.mk (And.intro hap hQ)
  have HQ := As.mk hq
  have HB := As.mk (And.intro hb (And.intro hl hl2))
  have hQZ : Q ≠ Z := fun e => hQ.1 ((hFz Q).2 (.inl e))
  have z0 := hBz.cell 0
  have z1 := hBz.cell 1
  have x0 := hBy.cell 0
  have x1 := hBy.cell 1
  have q1 := hq.cell 1
  simp only [List.getElem?_cons_zero, List.getElem?_cons_succ] at z0 z1 x0 x1 q1
  obtain ⟨Az, nz, cz, rfl, _⟩ := hnz.form
  clear hz hy hap hQ hb hBz hnz hnez hFz hBy hny hney hFy hq hg2 hB2 hl2' hd hy1 hyy h02 hl hl2
  go_enter Tryd.func21, Tryd.ntmps21
  go_wp2_with fail
  go_region_law (first
    | (go_simp
       refine (div_any (base := base) (w := w.drew) (x := a) (y := y) (HZ.out.2.1.keep ((Chg.refl _ _).drew)).st HB.out.1 (HZ.out.2.1.keep ((Chg.refl _ _).drew)) HY.out.2.1.drew HY.out.2.2.1 HY.out.2.2.2.1 HY.out.2.2.2.2 HB.out.2.1 HB.out.2.2).mono ?_
       rintro e21 w21 ⟨vq, vr, rfl, hnq, hnr, hc21, hoq, hor⟩
       obtain ⟨A21, n21, c21, hv21, hn21⟩ := hnr.form
       obtain ⟨A22, n22, c22, hv22, hn22⟩ := hnq.form
       subst hv21
       subst hv22
       have N21 := As.mk (And.intro hnr (And.intro hc21 (And.intro hor hoq)))
       have NN := As.mk (And.intro hn21 hn22)
       have hb21 := HZ.out.1.drew.chg hc21 (fun e => HZ.out.2.2.1 e)
       have B21 := As.mk hb21
       have hbq := HQ.out.drew.chg hc21 (fun e => HA.out.2.1 ((HZ.out.2.2.2 _).2 (.inr e)))
       have BQ := As.mk hbq
       have y1 := hb21.cell 1
       have y1f := hb21.frozen 1
       have yq1 := hbq.cell 1
       have yq1f := hbq.frozen 1
       simp only [List.getElem?_cons_zero, List.getElem?_cons_succ] at y1 yq1
       clear hnr hnq hc21 hor hoq hb21 hbq hn21 hn22))
  all_goals
    refine ‹∀ (a : Act) (w : World), Code.wp _ _ _ a w → _› _ _ ?_
    have bz := (B21.out.far (p := ⟨Q, 1, none⟩) (fun e => hQZ e.symm) (.slice A22 n22 c22)).set_ 1 (.slice A21 n21 c21)
    have bq := (BQ.out.set_ 1 (.slice A22 n22 c22)).far (p := ⟨Z, 1, none⟩) hQZ (.slice A21 n21 c21)
    have hc2 : Chg (fun b => FZ b ∨ b = Q) w ((w21.setCell ⟨Q, 1, none⟩ (.slice A22 n22 c22)).setCell ⟨Z, 1, none⟩ (.slice A21 n21 c21)) := (((Chg.refl _ _).drew.trans N21.out.2.1 (fun b _ e => .inl ((HZ.out.2.2.2 b).2 (.inr e)))).setCell (p := ⟨Q, 1, none⟩) _ (fun _ => .inr rfl)).setCell (p := ⟨Z, 1, none⟩) _ (fun _ => .inl ((HZ.out.2.2.2 Z).2 (.inl rfl)))
    have bY := HY.out.1.chg hc2 (fun e => e.elim (fun h => HA.out.1 _ h HYF.out.1) (fun h => HA.out.2.2 (h ▸ HYF.out.1)))
    have hst : Chg (fun b => b = Q ∨ b = Z) w21 ((w21.setCell ⟨Q, 1, none⟩ (.slice A22 n22 c22)).setCell ⟨Z, 1, none⟩ (.slice A21 n21 c21)) := ((Chg.refl _ w21).setCell (p := ⟨Q, 1, none⟩) _ (fun _ => .inl rfl)).setCell (p := ⟨Z, 1, none⟩) _ (fun _ => .inr rfl)
    have hZlt := HZ.out.1.lt
    have hQlt := HQ.out.lt
    have own : ∀ b, (Value.slice A21 n21 c21).ownBlock = some b → b ≠ Q ∧ b ≠ Z := fun b e => by
      rcases N21.out.2.2.1 b e with h | h
      · exact ⟨fun e2 => HA.out.2.1 ((HZ.out.2.2.2 Q).2 (.inr (e2 ▸ h))), fun e2 => HZ.out.2.2.1 (e2 ▸ h)⟩
      · have h' : w.heap.size ≤ b := h
        exact ⟨by omega, by omega⟩
    have hnn := N21.out.1.chg hst (fun b e h => h.elim (own b e).1 (own b e).2)
    have FIN : As (SetR w base Q Z FZ (a % y) (((w21.setCell ⟨Q, 1, none⟩ (.slice A22 n22 c22)).setCell ⟨Z, 1, none⟩ (.slice A21 n21 c21)).drew)) := ⟨SetR.drew ⟨fun b => b = Z ∨ (Value.slice A21 n21 c21).ownBlock = some b, ⟨_, bz, hnn, fun e => (own Z e).2 rfl, fun b => Iff.rfl⟩, hc2, fun b e => by
      rcases e with rfl | e
      · exact .inl ((HZ.out.2.2.2 b).2 (.inl rfl))
      · rcases N21.out.2.2.1 b e with h | h
        · exact .inl ((HZ.out.2.2.2 b).2 (.inr h))
        · exact .inr h⟩⟩
    have k1 := bz.cell 0
    have k2 := bz.cell 1
    have k3 := bq.cell 0
    have k4 := bq.cell 1
    have k5 := bY.cell 0
    simp only [List.getElem?_cons_zero, List.getElem?_cons_succ, List.set_cons_succ, List.set_cons_zero] at k1 k2 k3 k4 k5
    exact quoRest k1 k2 k3 k4 k5 (bq.frozen 0) (bz.frozen 0) ⟨setCell_noop bq rfl⟩ ⟨setCell_noop bz rfl⟩ (NN.out.1.imp (·.1) (·.1)) (NN.out.2.imp (·.1) (·.1)) FIN
end Go.Proofs.YthnebljgnmggaaaDoor
