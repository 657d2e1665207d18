/- The contract of spec.eaxTag. -/
import Derived.Test.YthbgpbaneghmdaaSOmac
set_option linter.unusedVariables false
set_option linter.unusedSimpArgs false
namespace Go.Proofs.Ythbgpbaneghmdaa
open Go.RowKit V
def eaxTagL (perm sub mask nonce ct hdr : List Int) : List Int := xorL (xorL (omacL perm sub mask (twk 0 nonce)) (omacL perm sub mask (twk 1 hdr))) (omacL perm sub mask (twk 2 ct))
theorem omac16 {perm sub mask : List Int} (hm : mask.length = 16) (xs : List Int) : (omacL perm sub mask xs).length = 16 :=
  cbcSt_length (fun x => by rw [encL_length]; exact hm) (by simp) _
theorem xorL_len (xs ys : List Int) : (xorL xs ys).length = xs.length := tab_length _ _
theorem eaxTagL_length {perm sub mask : List Int} (hm : mask.length = 16) (a b c : List Int) : (eaxTagL perm sub mask a b c).length = 16 := by
  unfold eaxTagL
  rw [xorL_len, xorL_len, omac16 hm]
set_option maxRecDepth 100000 in
set_option maxHeartbeats 2000000 in
theorem eaxTag_any {PA : Option Addr} {pc : Nat} {SA : Option Addr} {sc : Nat} {MA : Option Addr} {mc : Nat} {perm sub mask : List Int} {NA : Option Addr} {nn nc : Nat} {nonce : List Int} {CA : Option Addr} {cn cc : Nat} {ct : List Int} {HA : Option Addr} {hn hc : Nat} {hdr : List Int} {w : World}
    (hd : Pd w PA SA MA perm sub mask) (hrt : Rt perm sub mask) (rn : Rb w NA nonce) (hnn : nn = nonce.length) (bn : Byt nonce) (rc : Rb w CA ct) (hcn : cn = ct.length) (bc : Byt ct) (rh : Rb w HA hdr) (hhn : hn = hdr.length) (bh : Byt hdr) (ln : nn ≤ 1048576) (lc : cn ≤ 1048576) (lh : hn ≤ 1048576) :
    Calls Try.prog 54 #[.iface 61 (.agg #[.slice PA 16 pc, .slice SA 256 sc, .slice MA 16 mc]), .slice NA nn nc, .slice CA cn cc, .slice HA hn hc] w (GivesW NoB w (eaxTagL perm sub mask nonce ct hdr)) := by
  have PD := As.mk hd
  have RT := As.mk hrt
  have RN := As.mk rn
  have RC := As.mk rc
  have RH := As.mk rh
  have HL := As.mk (And.intro hnn (And.intro hcn hhn))
  have HB := As.mk (And.intro bn (And.intro bc bh))
  clear hd hrt rn rc rh hnn hcn hhn bn bc bh
  go_enter Try.func54, Try.ntmps54
  go_wp2_with fail
  refine (specOmac_any PA pc SA sc MA mc perm sub mask 0 NA nn nc nonce w PD.out RT.out (by omega) RN.out HL.out.1 HB.out.1 (by omega)).mono ?_
  rintro e1 w1 ⟨v1, rfl, ho1, hc1⟩
  obtain ⟨A1, c1, hv1, _, hr1, _⟩ := own_form ho1
  rw [omac16 RT.out.hm] at hv1
  subst hv1
  have R1 := As.mk hr1
  have C1 := As.mk hc1
  clear ho1 hc1 hr1
  go_wp2_with fail
  refine (specOmac_any PA pc SA sc MA mc perm sub mask 1 HA hn hc hdr w1 (PD.out.keep C1.out) RT.out (by omega) (RH.out.keep C1.out) HL.out.2.2 HB.out.2.2 (by omega)).mono ?_
  rintro e2 w2 ⟨v2, rfl, ho2, hc2⟩
  obtain ⟨A2, c2, hv2, _, hr2, _⟩ := own_form ho2
  rw [omac16 RT.out.hm] at hv2
  subst hv2
  have R2 := As.mk hr2
  have C2 := As.mk (C1.out.trans hc2 (fun _ _ e => e))
  have R1b := As.mk (R1.out.keep hc2)
  clear ho2 hc2 hr2
  go_wp2_with fail
  refine (specXored_any A1 16 c1 _ A2 16 c2 _ w2 (omac16 RT.out.hm _).symm (omac16 RT.out.hm _).symm R1b.out R2.out (by rw [omac16 RT.out.hm]; omega)).mono ?_
  rintro e3 w3 ⟨v3, rfl, ho3, hc3⟩
  obtain ⟨A3, c3, hv3, _, hr3⟩ := ow_form ho3
  rw [xorL_len, omac16 RT.out.hm] at hv3
  subst hv3
  have R3 := As.mk hr3
  have C3 := As.mk (C2.out.trans hc3 (fun _ _ e => e))
  clear ho3 hc3 hr3
  go_wp2_with fail
  refine (specOmac_any PA pc SA sc MA mc perm sub mask 2 CA cn cc ct w3 (PD.out.keep C3.out) RT.out (by omega) (RC.out.keep C3.out) HL.out.2.1 HB.out.2.1 (by omega)).mono ?_
  rintro e4 w4 ⟨v4, rfl, ho4, hc4⟩
  obtain ⟨A4, c4, hv4, _, hr4, _⟩ := own_form ho4
  rw [omac16 RT.out.hm] at hv4
  subst hv4
  have R4 := As.mk hr4
  have C4 := As.mk (C3.out.trans hc4 (fun _ _ e => e))
  have R3b := As.mk (R3.out.keep hc4)
  clear ho4 hc4 hr4
  go_wp2_with fail
  refine (specXored_any A3 16 c3 _ A4 16 c4 _ w4 (by rw [xorL_len, omac16 RT.out.hm]) (omac16 RT.out.hm _).symm R3b.out R4.out (by rw [xorL_len, omac16 RT.out.hm]; omega)).mono ?_
  rintro e5 w5 ⟨v5, rfl, ho5, hc5⟩
  have O5 := As.mk (ow_lower (base' := w.heap.size) ho5 C4.out.size)
  have C5 := As.mk (C4.out.trans hc5 (fun _ _ e => e))
  clear ho5 hc5
  go_wp2_with fail
  go_ret
  exact ⟨v5, rfl, O5.out, C5.out⟩
end Go.Proofs.Ythbgpbaneghmdaa
