/- The contract of spec.EaxSeal. -/
import Derived.Test.YthbgpbaneghmdaaCtd
set_option linter.unusedVariables false
set_option linter.unusedSimpArgs false
namespace Go.Proofs.Ythbgpbaneghmdaa
open Go.RowKit V
def eaxCt (perm sub mask nonce text : List Int) : List Int := ctrL (encL perm sub mask) (omacL perm sub mask (twk 0 nonce)) text
def eaxSealL (perm sub mask nonce text hdr : List Int) : List Int := eaxCt perm sub mask nonce text ++ eaxTagL perm sub mask nonce (eaxCt perm sub mask nonce text) hdr
theorem omac_byt {perm sub mask : List Int} (bs : Byt sub) (bm : Byt mask) (xs : List Int) : Byt (omacL perm sub mask xs) :=
  cbcSt_byt (fun x => encL_byt x bs bm) (fun x h => by rw [List.eq_of_mem_replicate h]; omega) _
set_option maxRecDepth 100000 in
set_option maxHeartbeats 2000000 in
theorem eaxSeal_any {PA : Option Addr} {pc : Nat} {SA : Option Addr} {sc : Nat} {MA : Option Addr} {mc : Nat} {perm sub mask : List Int} {NA : Option Addr} {nn nc : Nat} {nonce : List Int} {TA : Option Addr} {tn tc : Nat} {text : List Int} {HA : Option Addr} {hn hc : Nat} {hdr : List Int} {w : World}
    (hd : Pd w PA SA MA perm sub mask) (hrt : Rt perm sub mask) (rn : Rb w NA nonce) (hnn : nn = nonce.length) (bn : Byt nonce) (rt : Rb w TA text) (htn : tn = text.length) (htc : tn ≤ tc) (bt : Byt text) (rh : Rb w HA hdr) (hhn : hn = hdr.length) (bh : Byt hdr) (ln : nn ≤ 1048576) (lt : tn ≤ 1048576) (lh : hn ≤ 1048576) :
    Calls Try.prog 38 #[.iface 61 (.agg #[.slice PA 16 pc, .slice SA 256 sc, .slice MA 16 mc]), .int .i64 16, .slice NA nn nc, .slice TA tn tc, .slice HA hn hc] w (GivesW NoB w (eaxSealL perm sub mask nonce text hdr)) := by
  have PD := As.mk hd
  have RT := As.mk hrt
  have RN := As.mk rn
  have RX := As.mk rt
  have RH := As.mk rh
  have HL := As.mk (And.intro hnn (And.intro htn hhn))
  have HB := As.mk (And.intro bn (And.intro bt bh))
  have HOB : As (Byt (omacL perm sub mask (twk 0 nonce))) := ⟨omac_byt hrt.bs hrt.bm _⟩
  clear hd hrt rn rt rh hnn htn hhn bn bt bh
  go_enter Try.func38, Try.ntmps38
  go_wp2_with fail
  refine (specOmac_any PA pc SA sc MA mc perm sub mask 0 NA nn nc nonce w PD.out RT.out (by omega) RN.out HL.out.1 HB.out.1 (by omega)).mono ?_
  rintro e1 w1 ⟨v1, rfl, ho1, hc1⟩
  obtain ⟨A1, c1, hv1, _, hr1, _⟩ := own_form ho1
  rw [omac16 RT.out.hm] at hv1
  subst hv1
  have R1 := As.mk hr1
  have C1 := As.mk hc1
  clear ho1 hc1 hr1
  go_wp2_with fail
  refine (counted_any (PD.out.keep C1.out) RT.out R1.out (omac16 RT.out.hm _).symm HOB.out (RX.out.keep C1.out) HL.out.2.1 htc HB.out.2.1 lt).mono ?_
  rintro e2 w2 ⟨v2, rfl, ho2, hc2⟩
  obtain ⟨A2, c2, hv2, _, hr2⟩ := ow_form ho2
  rw [ctrL_length, ← HL.out.2.1] at hv2
  subst hv2
  have O2 := As.mk ho2
  have R2 := As.mk hr2
  have HCB : As (Byt (eaxCt perm sub mask nonce text)) := ⟨ctrL_byt (fun x => encL_byt x RT.out.bs RT.out.bm) HB.out.2.1⟩
  have HCL : As (tn = (eaxCt perm sub mask nonce text).length) := ⟨by unfold eaxCt; rw [ctrL_length]; exact HL.out.2.1⟩
  have C2 := As.mk (C1.out.trans hc2 (fun _ _ e => e))
  clear ho2 hc2 hr2
  go_wp2_with fail
  refine (eaxTag_any (ct := eaxCt perm sub mask nonce text) (PD.out.keep C2.out) RT.out (RN.out.keep C2.out) HL.out.1 HB.out.1 R2.out HCL.out HCB.out (RH.out.keep C2.out) HL.out.2.2 HB.out.2.2 ln lt lh).mono ?_
  rintro e3 w3 ⟨v3, rfl, ho3, hc3⟩
  obtain ⟨A3, c3, hv3, hn3, hr3⟩ := ow_form ho3
  rw [eaxTagL_length RT.out.hm] at hv3 hn3
  subst hv3
  have R3 := As.mk hr3
  have HT16 : As (16 = (eaxTagL perm sub mask nonce (eaxCt perm sub mask nonce text) hdr).length) := ⟨(eaxTagL_length RT.out.hm _ _ _).symm⟩
  have C3 := As.mk (C2.out.trans hc3 (fun _ _ e => e))
  have O3 := As.mk (ow_lower (base' := w.heap.size) (ow_keep O2.out hc3) C1.out.size)
  have kcut := cut_to (P := Try.prog) 22 5 Try.underlying22 size8 A3 16 c3 (16 : Int) .i64 16 rfl (by omega)
  clear ho3 hc3 hr3
  go_wp2_with (at_builtin; refine wpList_append_ow rfl _ _ 22 rfl 5 .u8 1 Try.underlying22 info8 (by decide) (.slice A2 tn c2) w.heap.size _ _ A3 16 c3 rfl rfl HT16.out O3.out R3.out C3.out.size (by rw [← HT16.out, ctrL_length, ← HL.out.2.1]; omega) ?_; intro v4 w4 ho4 hc4; have O4 := As.mk ho4; have C4 : As (Chg NoB w w4) := ⟨Chg.over C3.out hc4 (Nat.le_refl _)⟩; clear ho4 hc4)
  go_ret
  exact ⟨v4, rfl, O4.out, C4.out⟩
end Go.Proofs.Ythbgpbaneghmdaa
