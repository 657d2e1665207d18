/- The contract of (*mask).extendTable. -/
import Derived.Test.YtlpningplmbnhaaDoorOcI
import Derived.Deep.RegionHeld3
set_option linter.unusedVariables false
set_option linter.unusedSimpArgs false
namespace Go.Proofs.YtlpningplmbnhaaDoor
open Go.RowKit V
/-- The first masks. -/
def lRow (perm sub mask : List Int) (n : Nat) : List (List Int) := (List.range n).map (lAtL perm sub mask)
theorem lRow_length (perm sub mask : List Int) (n : Nat) : (lRow perm sub mask n).length = n := by simp [lRow]
theorem lRow_snoc (perm sub mask : List Int) (n : Nat) : lRow perm sub mask (n + 1) = lRow perm sub mask n ++ [lAtL perm sub mask n] := by simp [lRow, List.range_succ]
theorem lRow_at {perm sub mask : List Int} {n j : Nat} (h : j < (lRow perm sub mask n).length) : (lRow perm sub mask n)[j] = lAtL perm sub mask j := by simp [lRow]
/-- An ocb in block OB over the cipher in B, with its first masks; the masks lie in blocks of K. -/
def Oc (K : Nat → Prop) (w : World) (base OB B gA : Nat) (vD : Value) (l : List (List Int)) : Prop :=
  ∃ v, Blk w OB 58 [cphV B, .int .i64 0, .int .i64 0, .slice (some ⟨gA, 0, none⟩) 16 16, vD, v, .slice none 0 0, .slice none 0 0] ∧ Rws K w base 22 v l ∧ (∀ b, v.ownBlock = some b → K b)
theorem Oc.chg {K S : Nat → Prop} {w w' : World} {base OB B gA : Nat} {vD : Value} {l : List (List Int)} (h : Oc K w base OB B gA vD l) (hc : Chg S w w') (ho : ¬ S OB) (hs : ∀ b, b < w.heap.size → K b → ¬ S b) : Oc K w' base OB B gA vD l := by
  obtain ⟨v, h1, h2, h3⟩ := h
  exact ⟨v, h1.chg hc ho, h2.chg hc (fun b _ hb e => hs b hb (h3 b e)) hs, h3⟩
theorem Oc.keep {K : Nat → Prop} {w w' : World} {base OB B gA : Nat} {vD : Value} {l : List (List Int)} (h : Oc K w base OB B gA vD l) (hc : Chg NoB w w') : Oc K w' base OB B gA vD l := h.chg hc (fun e => e) (fun _ _ _ e => e)
/-- What extendTable may turn. -/
def OcS (K : Nat → Prop) (OB : Nat) : Nat → Prop := fun b => b = OB ∨ K b
set_option maxRecDepth 100000 in
set_option maxHeartbeats 2000000 in
theorem extend_any {w : World} {K : Nat → Prop} {base OB B gA n lim : Nat} {vD : Value} {perm sub mask : List Int} (hO : Oc K w base OB B gA vD (lRow perm sub mask n)) (h1 : 1 ≤ n) (hn : n ≤ lim) (hl : lim ≤ 64) (hK : ∀ b, w.heap.size ≤ b → K b) (hKO : ¬ K OB) (hb : base ≤ w.heap.size) :
    Calls Tryd.prog 29 #[.pointer (some ⟨OB, 3, none⟩), .int .i64 lim] w fun e w' => e = .returned (.tuple #[]) ∧ Oc K w' base OB B gA vD (lRow perm sub mask (lim + 1)) ∧ Chg (OcS K OB) w w' := by
  have HKK := As.mk hK
  have HKO := As.mk hKO
  have HBA := As.mk hb
  obtain ⟨v0, hv0, hv1, hv2⟩ := hO
  have HO0 : As (∃ v, Blk w OB 58 [cphV B, .int .i64 0, .int .i64 0, .slice (some ⟨gA, 0, none⟩) 16 16, vD, v, .slice none 0 0, .slice none 0 0] ∧ Rws K w base 22 v (lRow perm sub mask n) ∧ (∀ b, v.ownBlock = some b → K b)) := ⟨⟨v0, hv0, hv1, hv2⟩⟩
  obtain ⟨A0, c0, vs0, hA0, _, _, _, _, _⟩ := hv1.row (by rw [lRow_length]; omega)
  rw [lRow_length] at hA0
  subst hA0
  have x5 := hv0.cell 5
  simp only [List.getElem?_cons_zero, List.getElem?_cons_succ] at x5
  clear hv0 hv1 hv2 hK hKO hb
  go_enter Tryd.func29, Tryd.ntmps29
  go_wp2_with fail
  go_loopw [4] (fun iv wr => ∃ i : Nat, 1 ≤ i ∧ i ≤ lim + 1 ∧ iv = .int .i64 i ∧ As (Oc K wr base OB B gA vD (lRow perm sub mask i)) ∧ As (Chg (OcS K OB) w wr)) (fun iv _ => lim + 1 - (intOf iv).toNat)
  case atStart => exact ⟨n, h1, by omega, rfl, ⟨HO0.out⟩, ⟨Chg.refl _ _⟩⟩
  case round =>
    clear x5 HO0 h1 hn
    obtain ⟨i, hi1, hi2, rfl, HO, HC⟩ := hrel
    by_cases hlt : i ≤ lim
    · have hlt2 : (i : Int) ≤ (lim : Int) := by omega
      obtain ⟨rv, hv0, hv1, hv2⟩ := HO.out
      have HV0 := As.mk hv0
      have HV1 := As.mk hv1
      have HV2 := As.mk hv2
      have x5 := hv0.cell 5
      have y5 := hv0.frozen 5
      simp only [List.getElem?_cons_zero, List.getElem?_cons_succ] at x5
      obtain ⟨A0, c0, vs0, hA0, hc0, hrr, hpz, hg0, _⟩ := hv1.row (by rw [lRow_length]; omega)
      rw [lRow_length] at hA0 hg0 hc0
      obtain ⟨gL, rfl, hgb, hgl⟩ := hg0 (by omega)
      obtain ⟨k, hk⟩ : ∃ k, i = k + 1 := ⟨i - 1, by omega⟩
      have HI := As.mk hk
      have hkl : k < vs0.length := by rw [hrr.2.1, lRow_length]; omega
      have hkl2 : k < (lRow perm sub mask i).length := by rw [lRow_length]; omega
      obtain ⟨ad, e, hck⟩ := hrr.1.at_ k hkl
      injection e with e
      subst e
      have hpk := hpz k hkl hkl2
      rw [lRow_at] at hpk
      generalize vs0[k] = p at *
      obtain ⟨PA, pn, pc⟩ := p
      have hpn : pn = (lAtL perm sub mask k).length := hpk.1
      rw [lAtL_length] at hpn
      subst hpn
      have HPK := As.mk hpk
      have HLN : As ((lAtL perm sub mask k).length = 16) := ⟨lAtL_length _ _ _ _⟩
      have hsub : (i : Int) - 1 = (k : Int) := by omega
      have hadd : (⟨gL, 0, none⟩ : Addr).add k = ⟨gL, k, none⟩ := add_lit0 _ _
      have hki : (k : Int) < (i : Int) := by omega
      have hwk : IntKind.i64.wrap (k : Int) = (k : Int) := by simp [IntKind.wrap, IntKind.bits, IntKind.signed]; omega
      rw [hadd] at hck
      have hck2 : wr.cell? ⟨gL, k, none⟩ = some (.slice PA 16 pc) := hck
      subst hA0
      have HLEN : As ((lRow perm sub mask i).length = i) := ⟨lRow_length _ _ _ _⟩
      have HGL := As.mk (And.intro hgb hgl)
      have HNL : As (OB ≠ gL) := ⟨fun e => HKO.out (by rw [e]; exact HV2.out gL rfl)⟩
      clear hv0 hv1 hv2 hc0 hrr hpz hg0 hgb hgl hkl hkl2 hck hpk HO hlt hk
      go_wp2_with fail
      have HB : As (Chg NoB wr wr) := ⟨Chg.refl _ _⟩
      obtain ⟨vr, hvl, hvo, hvi⟩ := HV1.out
      have HVL := As.mk hvl
      have HVO : As (wr.ownsRow base 22 1 (.slice (some ⟨gL, 0, none⟩) i c0) i (vr.map slV)) := ⟨by rw [HLEN.out] at hvo; exact hvo⟩
      have HVI := As.mk hvi
      clear hvl hvo hvi
      have HBO := As.mk (lAtL_byt perm sub mask k)
      go_region_law (first
        | (go_simp
           refine (gfn_any PA pc (lAtL perm sub mask k) _ HLN.out (HPK.out.2.2.1.keep ?r1) HBO.out).mono ?_
           case r1 => exact (by repeat (first | (with_reducible exact HB.out) | (with_reducible apply Chg.drew) | (with_reducible apply Chg.alloc)))
           rintro e28 w28 ⟨v28, rfl, ho28, hc28⟩
           obtain ⟨g28, c28, hv28, hl28, hg28, hg28'⟩ := own_form_pos ho28 (by rw [dbl_length]; omega)
           rw [dbl_length] at hv28 hl28
           subst hv28
           have HB28 : As (Chg NoB wr w28) := ⟨Chg.trans (by repeat (first | (with_reducible exact HB.out) | (with_reducible apply Chg.drew) | (with_reducible apply Chg.alloc))) hc28 (fun _ _ e => e)⟩
           have O28 := As.mk (own_reads ho28)
           have HG28 : As (16 ≤ c28 ∧ wr.heap.size ≤ g28 ∧ g28 < w28.heap.size) := ⟨hl28, Nat.le_trans (Chg.size (S := NoB) (by repeat (first | (with_reducible exact HB.out) | (with_reducible apply Chg.drew) | (with_reducible apply Chg.alloc)))) hg28, hg28'⟩
           have x28 := (HV0.out.chg HB28.out (fun e => e)).cell 5
           have x29 := ((HV0.out.chg HB28.out (fun e => e)).alloc (.cells #[.slice (some ⟨g28, 0, none⟩) 16 c28] 22)).cell 5
           simp only [List.getElem?_cons_zero, List.getElem?_cons_succ] at x28 x29
           clear ho28 hc28 HB hl28 hg28 hg28'
           have HB := HB28
           clear HB28)
        | (refine step_append_s (N := 30) rfl rfl _ _ 35 rfl 22 1 (.slice none 0 0) 24 Tryd.underlying35 infoRow rfl (by decide) (by decide) (.slice (some ⟨gL, 0, none⟩) i c0) base i (vr.map slV) ⟨w28.heap.size, 0, none⟩ 1 [.slice (some ⟨g28, 0, none⟩) 16 c28] rfl rfl ?k1 rfl ?k2 (by simp [Value.oneCell']) ?k4 ?k5 ?_
           case k1 => exact row_keep HVO.out (by repeat (first | (with_reducible exact HB.out) | (with_reducible apply Chg.drew) | (with_reducible apply Chg.alloc)))
           case k2 => exact (Blk.new w28 _ [.slice (some ⟨g28, 0, none⟩) 16 c28]).news
           case k4 => exact Nat.le_trans (Nat.le_trans HBA.out HC.out.size) (Chg.size (S := NoB) (by repeat (first | (with_reducible exact HB.out) | (with_reducible apply Chg.drew) | (with_reducible apply Chg.alloc))))
           case k5 => omega
           intro v30 w30 h2 h3 h5
           obtain ⟨A30, c30, hv30, _, _, _⟩ := row_form h2
           subst hv30
           have H2 := As.mk h2
           have H3 := As.mk h3
           have H5 := As.mk h5
           have hal : Chg NoB w28 _ := (Chg.refl NoB w28).alloc (.cells #[.slice (some ⟨g28, 0, none⟩) 16 c28] 22)
           have HAL := As.mk hal
           have B30 := As.mk (((HV0.out.chg HB.out (fun e => e)).chg hal (fun e => e)).chg (grown_chg h3) (fun e => by injection e with e; exact HNL.out e.symm))
           have x30 := B30.out.cell 5
           have y30 := B30.out.frozen 5
           simp only [List.getElem?_cons_zero, List.getElem?_cons_succ] at x30
           clear h2 h3 h5 hal))
      all_goals
        have L1 := (Chg.refl NoB w30).drew
        have OK2 : Oc K (w30.setCell ⟨OB, 5, none⟩ (.slice A30 (i + 1) c30)) base OB B gA vD (lRow perm sub mask (i + 1)) := by
          have hK30 : ∀ b, w28.heap.size ≤ b → K b := fun b hb => HKK.out b (Nat.le_trans (Nat.le_trans HC.out.size HB.out.size) hb)
          have hrw := Rws.snoc (K := K) (l := lRow perm sub mask i) (vs := vr) (p := (some ⟨g28, 0, none⟩, 16, c28)) (xs := lAtL perm sub mask i) HVL.out (by rw [HLEN.out]; exact row_keep HVO.out (HB.out.trans HAL.out (fun _ _ e => e))) (fun a b c d e => (HVI.out a b c d e).chg (HB.out.trans HAL.out (fun _ _ e => e)) (fun _ _ _ e => e))
            ⟨(lAtL_length _ _ _ _).symm, by rw [lAtL_length]; exact HG28.out.1, by rw [show lAtL perm sub mask i = dbl (lAtL perm sub mask k) from by rw [HI.out]; rfl]; exact O28.out.keep HAL.out, fun ad e => by
              injection e with e
              subst e
              refine ⟨⟨HKK.out _ (Nat.le_trans HC.out.size HG28.out.2.1), fun e => ?_⟩, Nat.lt_of_lt_of_le HG28.out.2.2 HAL.out.size⟩
              injection e with e
              have e2 : gL = g28 := e
              have := HGL.out; have := HG28.out
              omega⟩
            (by rw [HLEN.out]; exact H2.out) H3.out H5.out
          rw [← lRow_snoc] at hrw
          have hst : Chg (fun b => b = OB) w30 (w30.setCell ⟨OB, 5, none⟩ (.slice A30 (i + 1) c30)) := (Chg.refl _ _).setCell (p := ⟨OB, 5, none⟩) _ (fun _ => rfl)
          have hown : ∀ b, (Value.slice A30 (i + 1) c30).ownBlock = some b → K b := fun b e => by
            rcases H5.out with h | h
            · rw [h] at e; exact HV2.out b e
            · rw [h] at e; injection e with e; subst e
              exact hK30 _ HAL.out.size
          exact ⟨_, B30.out.set_ 5 (.slice A30 (i + 1) c30), hrw.chg hst (fun b _ _ e h => HKO.out (by rw [← h]; exact hown b e)) (fun b _ hk h => HKO.out (by rw [← h]; exact hk)), hown⟩
        have CK2 : Chg (OcS K OB) w (w30.setCell ⟨OB, 5, none⟩ (.slice A30 (i + 1) c30)) :=
          (((HC.out.trans HB.out (fun _ _ e => e.elim)).trans HAL.out (fun _ _ e => e.elim)).trans (grown_chg H3.out) (fun b _ e => .inr (HV2.out b e))).setCell (p := ⟨OB, 5, none⟩) _ (fun _ => .inl rfl)
        have OK2 := As.mk OK2
        have CK2 := As.mk CK2
        go_wp2_with fail
        go_roundw
        case rel => exact ⟨i + 1, by omega, by omega, by go_num, OK2, CK2⟩
        case measure => simp [intOf]; omega
    · obtain rfl : i = lim + 1 := by omega
      go_wp2_with fail
      go_end0
      exact ⟨rfl, HO.out, HC.out⟩
end Go.Proofs.YtlpningplmbnhaaDoor
