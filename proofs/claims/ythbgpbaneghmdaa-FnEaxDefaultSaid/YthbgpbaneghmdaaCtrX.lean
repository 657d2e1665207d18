/- Counter mode: the contract of (*ctr).XORKeyStream on a fresh state. -/
import Derived.Test.YthbgpbaneghmdaaCtrR
import Derived.Test.YthbgpbaneghmdaaCbcC
set_option linter.unusedVariables false
set_option linter.unusedSimpArgs false
namespace Go.Proofs.Ythbgpbaneghmdaa
open Go.RowKit V
theorem add_lit (g p m : Nat) : (⟨g, p, none⟩ : Addr).add m = ⟨g, p + m, none⟩ := by unfold Addr.add; split <;> simp_all
theorem incN_add (a : Nat) (c : List Int) : ∀ b, incN (a + b) c = incN b (incN a c)
  | 0 => rfl
  | b + 1 => by show inc 16 (incN (a + b) c) = inc 16 (incN b (incN a c)); rw [incN_add a c b]
theorem ext_getD {xs ys : List Int} (hl : xs.length = ys.length) (h : ∀ i, i < xs.length → xs.getD i 0 = ys.getD i 0) : xs = ys :=
  calc xs = tab xs.length (fun i => xs.getD i 0) := eq_tab xs
    _ = tab ys.length (fun i => ys.getD i 0) := by rw [← hl]; exact tab_congr h
    _ = ys := (eq_tab ys).symm
theorem ksL_getD {E : List Int → List Int} {c : List Int} (hE : ∀ x, (E x).length = 16) : ∀ r i, i < 16 * r → (ksL E c r).getD i 0 = (E (incN (i / 16) c)).getD (i % 16) 0
  | 0, i, h => by omega
  | r + 1, i, h => by
    have hl := ksL_length (c := c) hE r
    rw [ksL]
    by_cases h1 : i < 16 * r
    · rw [getD_left (by rw [hl]; exact h1), ksL_getD hE r i h1]
    · rw [getD_right (by rw [hl]; omega), hl, show i / 16 = r by omega, show i - 16 * r = i % 16 by omega]
/-- Up to 512 bytes more. -/
theorem ctr_more {E : List Int → List Int} {c : List Int} (hE : ∀ x, (E x).length = 16) (text : List Int) (t m : Nat) (hm : m ≤ 512) (h : 512 * t + m ≤ text.length) :
    ctrL E c (text.take (512 * t + m)) = ctrL E c (text.take (512 * t)) ++ xorZ ((text.drop (512 * t)).take m) ((ksL E (incN (32 * t) c) 32).take m) := by
  have hk := ksL_length (c := incN (32 * t) c) hE 32
  have l1 : (text.take (512 * t)).length = 512 * t := by rw [List.length_take]; omega
  have l2 : (text.take (512 * t + m)).length = 512 * t + m := by rw [List.length_take]; omega
  have l3 : ((text.drop (512 * t)).take m).length = m := by rw [List.length_take, List.length_drop]; omega
  have l4 : ((ksL E (incN (32 * t) c) 32).take m).length = m := by rw [List.length_take, hk]; omega
  refine ext_getD ?_ fun i hi => ?_
  · rw [ctrL_length, List.length_append, ctrL_length, xorZ_length, l1, l2, l3, l4]; omega
  · rw [ctrL_length, l2] at hi
    have e1 : (ctrL E c (text.take (512 * t + m))).getD i 0 = Go.bits .xor .u8 ((text.take (512 * t + m)).getD i 0) (keyB E c i) := by unfold ctrL; rw [tab_getD (by rw [l2]; exact hi)]
    rw [e1, take_gd hi]
    by_cases h1 : i < 512 * t
    · rw [getD_left (by rw [ctrL_length, l1]; exact h1)]
      unfold ctrL
      rw [tab_getD (by rw [l1]; exact h1), take_gd h1]
    · rw [getD_right (by rw [ctrL_length, l1]; omega), ctrL_length, l1, xorZ_getD (by rw [l3]; omega) (by rw [l4]; omega), take_gd (by omega), take_gd (by omega), ksL_getD hE 32 _ (by omega), ← incN_add]
      have hd : (text.drop (512 * t)).getD (i - 512 * t) 0 = text.getD i 0 := by
        rw [List.getD_eq_getElem?_getD, List.getD_eq_getElem?_getD, List.getElem?_drop, show 512 * t + (i - 512 * t) = i by omega]
      rw [hd]
      unfold keyB
      rw [show 32 * t + (i - 512 * t) / 16 = i / 16 by omega, show (i - 512 * t) % 16 = i % 16 by omega]
theorem splice_more (gs A B : List Int) : splice (splice gs 0 A) A.length B = splice gs 0 (A ++ B) := by
  unfold splice
  simp only [List.take_zero, List.nil_append, Nat.zero_add, List.length_append]
  rw [List.take_append_of_le_length (Nat.le_refl _), List.take_length, List.drop_append, List.drop_eq_nil_of_le (by omega), List.nil_append, List.drop_drop, List.append_assoc, show A.length + (A.length + B.length - A.length) = A.length + B.length by omega]
/-- What is so between two rounds: p bytes are done, s are left. -/
def XRel (w : World) (base B X C cc O G N cap : Nat) (gs c0 text : List Int) (E : List Int → List Int) (p s : Nat) (wr : World) : Prop :=
  Own wr base 5 .u8 (.slice (some ⟨G, 0, none⟩) N cap) (splice gs 0 (ctrL E c0 (text.take p))) ∧ Chg (fun b => CtrF X C O b ∨ b = G) w wr ∧
    (0 < s → ∃ t n zs, p = 512 * t ∧ (n = 0 ∨ n = 512) ∧ Ctr wr base B X C cc O n (incN (32 * t) c0) zs)
set_option maxRecDepth 100000 in
set_option maxHeartbeats 4000000 in
theorem xorKey_any {w : World} {lo hi base B X C cc O G N cap dn dc sn sc : Nat} {SA : Option Addr} {perm sub mask c0 zs gs text : List Int} (hC : Cph w lo hi B perm sub mask) (hr : RightB perm sub 16) (hm : mask.length = 16) (bs : Byt sub) (bm : Byt mask)
    (hS : Ctr w base B X C cc O 0 c0 zs) (HO : Own w base 5 .u8 (.slice (some ⟨G, 0, none⟩) N cap) gs) (hsd : sn ≤ dn) (hdc : dn ≤ dc) (hsN : sn ≤ N) (hsc : sn ≤ sc) (htn : sn = text.length) (bt : Byt text) (hmax : sn ≤ 4194304)
    (rt : Rf (fun b => ¬ CtrF X C O b ∧ b ≠ G) w SA text) (hap : ∀ b, lo ≤ b → b < hi → ¬ (CtrF X C O b ∨ b = G)) (hg : ¬ CtrF X C O G) :
    Calls Try.prog 131 #[.pointer (some ⟨X, 0, none⟩), .slice (some ⟨G, 0, none⟩) dn dc, .slice SA sn sc] w fun e w' => e = .returned (.tuple #[]) ∧ Own w' base 5 .u8 (.slice (some ⟨G, 0, none⟩) N cap) (splice gs 0 (ctrL (encL perm sub mask) c0 text)) ∧ Chg (fun b => CtrF X C O b ∨ b = G) w w' := by
  have CB := As.mk hC
  have HR := As.mk hr
  have HM := As.mk hm
  have HBY := As.mk (And.intro bs (And.intro bm bt))
  have HAP := As.mk hap
  have HG := As.mk hg
  have RT := As.mk rt
  have HTN := As.mk htn
  have HE : As (∀ x, (encL perm sub mask x).length = 16) := ⟨fun x => by rw [encL_length]; exact hm⟩
  have HEB : As (∀ x, Byt (encL perm sub mask x)) := ⟨fun x => encL_byt x bs bm⟩
  have HX0 : As (XRel w base B X C cc O G N cap gs c0 text (encL perm sub mask) 0 sn w) := ⟨⟨by simpa [ctrL, tab, splice] using HO, Chg.refl _ _, fun _ => ⟨0, 0, zs, rfl, .inl rfl, hS⟩⟩⟩
  have na := na_bs
  have me := me_bs
  clear hC hr hm bs bm hS HO bt rt hap hg htn
  have hlt : ¬ ((dn : Int) < (sn : Int)) := by omega
  go_enter Try.func131, Try.ntmps131
  go_wp2_with fail
  go_loopw [1, 2, 6] (fun dv sv _ wr => ∃ (p s d dcap scap : Nat) (DA SA' : Option Addr), dv = .slice DA d dcap ∧ sv = .slice SA' s scap ∧ s + p = sn ∧ d + p = dn ∧ dcap + p = dc ∧ scap + p = sc ∧ As (0 < s → DA = some ⟨G, p, none⟩) ∧ As (Rf (fun b => ¬ CtrF X C O b ∧ b ≠ G) w SA' (text.drop p)) ∧ As (XRel w base B X C cc O G N cap gs c0 text (encL perm sub mask) p s wr)) (fun _ sv _ _ => match sv with | .slice _ s _ => s | _ => 0)
  case atStart => exact ⟨0, sn, dn, dc, sc, _, SA, rfl, rfl, rfl, rfl, rfl, rfl, ⟨fun _ => rfl⟩, ⟨by simpa using RT.out⟩, HX0⟩
  case round =>
    clear HX0
    obtain ⟨p, s, d, dcap, scap, DA, SA', rfl, rfl, h1, h2, h3, h4, HDA, HSR, HXR⟩ := hrel
    by_cases h0 : s = 0
    · have hz : ¬ ((s : Int) > 0) := by omega
      have hps : p = sn := by omega
      have HXX := As.mk (And.intro HXR.out.1 HXR.out.2.1)
      have HPT : As (text.take p = text) := ⟨List.take_of_length_le (by have := HTN.out; omega)⟩
      clear hps
      subst h0
      go_wp2_with fail
      go_end0
      have h := HXX.out.1
      rw [HPT.out] at h
      exact ⟨rfl, h, HXX.out.2⟩
    · have hz : (0 : Int) < (s : Int) := by omega
      have hda := HDA.out (by omega)
      subst hda
      obtain ⟨hOwn, hChg, hct⟩ := HXR.out
      obtain ⟨t, n, zs1, hpt, hn, hctr⟩ := hct (by omega)
      have HCT := As.mk hctr
      have HOW := As.mk hOwn
      have HCH := As.mk hChg
      have HPT := As.mk hpt
      have HN := As.mk hn
      have x0 := hctr.blk.cell 0
      have x2 := hctr.blk.cell 2
      have x3 := hctr.blk.cell 3
      simp only [ctrCells, List.getElem?_cons_zero, List.getElem?_cons_succ] at x0 x2 x3
      have e1 : IntKind.i64.wrap ((n : Int) - 16) = (n : Int) - 16 := by rw [IntKind.wrap_i64]; omega
      have e2 : (n : Int) - 16 ≤ (n : Int) := by omega
      have CBr := As.mk (CB.out.chg hChg HAP.out)
      have hsl := HSR.out.1.2 (by rw [List.length_drop]; have := HTN.out; omega)
      obtain ⟨sx, esx, _, _⟩ := hsl
      subst esx
      have HSB := As.mk (HSR.out.2 sx rfl (by rw [List.length_drop]; have := HTN.out; omega))
      clear hct hctr hOwn hChg HXR hpt hn HDA
      go_wp2_with fail
      go_quiet ((go_at_call 103; exact Calls.quiet_of_same (blockSize_any (CBr.out.keep ((Chg.refl NoB wr).drewN _)) HM.out)))
      go_wp2_with fail
      refine (refill_any (CBr.out.keep ((Chg.refl NoB wr).drewN nq)) HR.out HM.out HBY.out.1 HBY.out.2.1 (HCT.out.keep ((Chg.refl NoB wr).drewN nq)) HN.out (fun b h1 h2 e => HAP.out b h1 h2 (.inl e))).mono ?_
      rintro e w5 ⟨rfl, b5, r5, o5, c5⟩
      have B5 := As.mk b5
      have R5 := As.mk r5
      have O5 := As.mk o5
      have C5 : As (Chg (fun b => CtrF X C O b ∨ b = G) w w5) := ⟨(HCH.out.drewN nq).trans c5 (fun _ _ e => .inl e)⟩
      have W5 := As.mk (own_chg (own_keep HOW.out ((Chg.refl NoB wr).drewN nq)) c5 (fun b e q => by injection e with e; subst e; exact HG.out q))
      have HXC := As.mk (And.intro HCT.out.xc (And.intro HCT.out.xo (And.intro HCT.out.co (And.intro HCT.out.cl HCT.out.bc))))
      clear x0 x2 x3 e1 e2 b5 r5 o5 c5 HCT HOW HCH CBr
      have x2 := B5.out.cell 2
      have x3 := B5.out.cell 3
      have z3 := B5.out.frozen 3
      simp only [ctrCells, List.getElem?_cons_zero, List.getElem?_cons_succ] at x2 x3
      obtain ⟨m, hm5⟩ : ∃ m, m = min s 512 := ⟨_, rfl⟩
      have HM5 := As.mk hm5
      have hm1 : 1 ≤ m := by omega
      have hms : m ≤ s := by omega
      have hmm : m ≤ 512 := by omega
      clear hm5
      obtain ⟨A5, kcut5, hA5, _⟩ := cut_from (P := Try.prog) 22 5 Try.underlying22 size8 (some ⟨O, 0, none⟩) 512 512 (0 : Int) .i64 512 512 (by omega) (by omega) (by omega) (Nat.le_refl _)
      have hA5' : A5 = some ⟨O, 0, none⟩ := by rw [hA5 (by omega)]; simp [add_lit0]
      subst hA5'
      obtain ⟨A7, kcut7, hA7, _⟩ := cut_from (P := Try.prog) 22 5 Try.underlying22 size8 (some ⟨G, p, none⟩) d dcap (m : Int) .i64 (d - m) (dcap - m) (by omega) (by omega) (by omega) (by omega)
      obtain ⟨A8, kcut8, hR8⟩ := cut_from_f (P := Try.prog) 22 5 Try.underlying22 size8 (some sx) s scap (m : Int) .i64 (s - m) (scap - m) (by omega) (by omega) (by omega) (by omega)
      have HA7 : As (0 < d - m → A7 = some ⟨G, p + m, none⟩) := ⟨fun h => by rw [hA7 h]; simp only [Option.map_some, add_lit, Int.toNat_natCast]⟩
      have HSL : As ((text.drop p).length = s) := ⟨by rw [List.length_drop]; have := HTN.out; omega⟩
      have HR8 : As (Rf (fun b => ¬ CtrF X C O b ∧ b ≠ G) w A8 (text.drop (p + m))) := ⟨by
        have h := hR8 _ w (text.drop p) HSL.out HSR.out
        rw [Int.toNat_natCast, List.drop_drop] at h
        exact h⟩
      have e5 : IntKind.i64.wrap (m : Int) = (m : Int) := by rw [IntKind.wrap_i64]; omega
      clear hA5 hA7 hR8
      go_wp2_with fail
      go_still_tail 11, (by kernel_rfl)
      change wpList _ _ _ _ _ (World.drew w5)
      go_wp2_with fail
      refine (xorBytes_own (g := G) (off := p) (n := m) (X := sx) (Y := ⟨O, 0, none⟩) (xs := text.drop p) (ys := ksL (encL perm sub mask) (incN (32 * t) c0) 32) (own_keep W5.out ((Chg.refl NoB w5).drew)) (by omega) (by omega) (by omega)
        ((HSR.out.chg C5.out (fun b _ hk e => by rcases e with e | e; exact hk.1 e; exact hk.2 e)).1).drew (own_reads O5.out).drew (HBY.out.2.2.drop p) (ksL_byt HEB.out 32) HSL.out.symm (ksL_length HE.out 32).symm (by omega) (Nat.le_refl _) HM5.out hm1 (.inl HSB.out.2) (.inl (fun e => HG.out (.inr (.inr e.symm))))).mono ?_
      rintro e w7 ⟨rfl, ho7, hc7⟩
      have HMORE := ctr_more HE.out (c := c0) text t m hmm (by have := HPT.out; have := HTN.out; omega)
      have hlp : (ctrL (encL perm sub mask) c0 (text.take p)).length = p := by rw [ctrL_length, List.length_take]; have := HTN.out; omega
      have hsp := splice_more gs (ctrL (encL perm sub mask) c0 (text.take p)) (xorZ ((text.drop p).take m) ((ksL (encL perm sub mask) (incN (32 * t) c0) 32).take m))
      rw [hlp] at hsp
      rw [← HPT.out] at HMORE
      rw [hsp, ← HMORE] at ho7
      have O7 := As.mk ho7
      have C7 : As (Chg (fun b => CtrF X C O b ∨ b = G) w w7) := ⟨(C5.out.drew).trans hc7 (fun _ _ e => .inr e)⟩
      have B7 := As.mk ((B5.out.drew).chg hc7 (fun e => HG.out (.inl e.symm)))
      have R7 := As.mk (own_chg (own_keep R5.out ((Chg.refl NoB w5).drew)) hc7 (fun b e q => by injection e with e; exact HG.out (.inr (.inl (q.symm.trans e.symm)))))
      have K7 := As.mk (own_chg (own_keep O5.out ((Chg.refl NoB w5).drew)) hc7 (fun b e q => by injection e with e; exact HG.out (.inr (.inr (q.symm.trans e.symm)))))
      clear ho7 hc7 HMORE hlp hsp x2 x3 z3 B5 R5 O5 C5 W5
      have x3 := B7.out.cell 3
      have z3 := B7.out.frozen 3
      simp only [ctrCells, List.getElem?_cons_zero, List.getElem?_cons_succ] at x3
      go_wp2_with fail
      go_roundw
      case rel =>
        have hc := (Chg.refl (fun b => b = X) w7).setCell (p := ⟨X, 3, none⟩) (.int .i64 m) (fun _ => rfl)
        refine ⟨p + m, s - m, d - m, dcap - m, scap - m, A7, A8, rfl, rfl, by omega, by omega, by omega, by omega, ⟨fun h => HA7.out (by omega)⟩, HR8, ⟨own_chg O7.out hc (fun b e q => by injection e with e; exact HG.out (.inl (e.trans q))), C7.out.trans hc (fun _ _ e => .inl (.inl e)), fun h => ?_⟩⟩
        have hm512 : m = 512 := by have := HM5.out; omega
        obtain ⟨q1, q2, q3, q4, q5⟩ := HXC.out
        have hB := B7.out.set_ 3 (.int .i64 m)
        rw [hm512] at hB hc
        rw [hm512]
        exact ⟨t + 1, 512, _, by have := HPT.out; omega, .inr rfl, hB, by rw [show 32 * (t + 1) = 32 * t + 32 by omega, incN_add]; exact own_chg R7.out hc (fun b e q => by injection e with e; exact q1 (q.symm.trans e.symm)), own_chg K7.out hc (fun b e q => by injection e with e; exact q2 (q.symm.trans e.symm)), q1, q2, q3, by rw [incN_length, ← incN_length (32 * t)]; exact q4, by rw [show 32 * (t + 1) = 32 * t + 32 by omega, incN_add]; exact incN_byt _ _ q5⟩
      case measure => show s - m < s; omega
end Go.Proofs.Ythbgpbaneghmdaa
