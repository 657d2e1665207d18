/- The contract of spec.EaxOpen. (Printed by wip/eaxopen.py.) -/
import Derived.Test.YthbgpbaneghmdaaEaxS
set_option linter.unusedVariables false
set_option linter.unusedSimpArgs false
namespace Go.Proofs.Ythbgpbaneghmdaa
open Go.RowKit V
/-- What is opened: none where the tag is another. -/
def eaxOpenL (perm sub mask nonce sealed hdr : List Int) : Option (List Int) :=
  if 16 ≤ sealed.length ∧ eaxTagL perm sub mask nonce (sealed.take (sealed.length - 16)) hdr = sealed.drop (sealed.length - 16) then some (eaxCt perm sub mask nonce (sealed.take (sealed.length - 16))) else none
def OpenOf (w : World) (r : Option (List Int)) (e : Ending) (w' : World) : Prop :=
  Chg NoB w w' ∧ match r with
  | none => e = .returned (.tuple #[.slice none 0 0, .bool false])
  | some xs => ∃ v, e = .returned (.tuple #[v, .bool true]) ∧ Ow w' w.heap.size 5 .u8 v xs
set_option maxRecDepth 100000 in
set_option maxHeartbeats 4000000 in
theorem eaxOpen_any {PA : Option Addr} {pc : Nat} {SA : Option Addr} {sc : Nat} {MA : Option Addr} {mc : Nat} {perm sub mask : List Int} {NA : Option Addr} {nn nc : Nat} {nonce : List Int} {TA : Option Addr} {tn tc : Nat} {text : List Int} {HA : Option Addr} {hn hc : Nat} {hdr : List Int} {w : World}
    (hd : Pd w PA SA MA perm sub mask) (hrt : Rt perm sub mask) (rn : Rb w NA nonce) (hnn : nn = nonce.length) (bn : Byt nonce) (rt : Rb w TA text) (htn : tn = text.length) (htc : tn ≤ tc) (bt : Byt text) (rh : Rb w HA hdr) (hhn : hn = hdr.length) (bh : Byt hdr) (ln : nn ≤ 1048576) (lt : tn ≤ 1048576) (lh : hn ≤ 1048576) :
    Calls Try.prog 39 #[.iface 61 (.agg #[.slice PA 16 pc, .slice SA 256 sc, .slice MA 16 mc]), .int .i64 16, .slice NA nn nc, .slice TA tn tc, .slice HA hn hc] w (OpenOf w (eaxOpenL perm sub mask nonce text hdr)) := by
  have PD := As.mk hd
  have RT := As.mk hrt
  have RN := As.mk rn
  have RX := As.mk rt
  have RH := As.mk rh
  have HL := As.mk (And.intro hnn (And.intro htn hhn))
  have HB := As.mk (And.intro bn (And.intro bt bh))
  have HOB : As (Byt (omacL perm sub mask (twk 0 nonce))) := ⟨omac_byt hrt.bs hrt.bm _⟩
  clear hd hrt rn rt rh hnn htn hhn bn bt bh
  by_cases h16 : 16 ≤ tn
  · obtain ⟨a, ha⟩ : ∃ a, a + 16 = tn := ⟨tn - 16, by omega⟩
    have HAT := As.mk ha
    have ia : (tn : Int) - 16 = (a : Int) := by omega
    have iw : IntKind.i64.wrap (a : Int) = (a : Int) := by simp [IntKind.wrap, IntKind.bits, IntKind.signed]; omega
    have ineg : ¬ (a : Int) < 0 := by omega
    have hatc : a ≤ tc := by omega
    have kt := cut_to (P := Try.prog) 22 5 Try.underlying22 size8 TA tn tc (a : Int) .i64 a rfl hatc
    obtain ⟨c7, hc7⟩ : ∃ c7, c7 + a = tc := ⟨tc - a, by omega⟩
    obtain ⟨A7, _, hA7, hR7⟩ := cut_from (P := Try.prog) 22 5 Try.underlying22 size8 TA tn tc (a : Int) .i64 16 c7 (by omega) (by omega) (by omega) htc
    have e7 : A7 = TA.map (fun x => x.add a) := by
      have := hA7 (by omega)
      rwa [Int.toNat_natCast] at this
    subst e7
    have HTA : As (a = (text.take a).length) := ⟨by rw [List.length_take, ← HL.out.2.1]; omega⟩
    have RA : As (Rb w TA (text.take a)) := ⟨RX.out.take_ a⟩
    have BA : As (Byt (text.take a)) := ⟨HB.out.2.1.take a⟩
    have R7 : As (Rb w (TA.map (fun x => x.add a)) (text.drop a)) := ⟨by have h := hR7 w .u8 text HL.out.2.1.symm RX.out; rwa [Int.toNat_natCast] at h⟩
    have HD7 : As (16 = (text.drop a).length) := ⟨by rw [List.length_drop, ← HL.out.2.1]; omega⟩
    have HEQ : As (text.length - 16 = a) := ⟨by rw [← HL.out.2.1]; omega⟩
    have HT16 : As (16 = (eaxTagL perm sub mask nonce (text.take a) hdr).length) := ⟨(eaxTagL_length RT.out.hm _ _ _).symm⟩
    have HBB : As (Chg NoB w w) := ⟨Chg.refl _ _⟩
    have la : a ≤ 1048576 := by omega
    clear ha hR7 hc7 hA7
    by_cases hs : eaxTagL perm sub mask nonce (text.take a) hdr = text.drop a
    · have HSD := As.mk (decide_eq_true hs)
      have HRES : As (eaxOpenL perm sub mask nonce text hdr = some (eaxCt perm sub mask nonce (text.take a))) := ⟨by unfold eaxOpenL; rw [HEQ.out, if_pos ⟨by rw [← HL.out.2.1]; exact h16, hs⟩]⟩
      clear hs
      go_enter Try.func39, Try.ntmps39
      go_wp2_with fail
      go_region_held3 (fun _ => True) (trivial) (first
        | (go_at_call 54
           with_reducible refine (eaxTag_any (ct := text.take a) (PD.out.keep (by repeat (first | (with_reducible exact HBB.out) | (with_reducible apply Chg.drew) | (with_reducible apply Chg.drewN) | (with_reducible apply Chg.alloc)))) RT.out (RN.out.keep (by repeat (first | (with_reducible exact HBB.out) | (with_reducible apply Chg.drew) | (with_reducible apply Chg.drewN) | (with_reducible apply Chg.alloc)))) HL.out.1 HB.out.1 (RA.out.keep (by repeat (first | (with_reducible exact HBB.out) | (with_reducible apply Chg.drew) | (with_reducible apply Chg.drewN) | (with_reducible apply Chg.alloc)))) HTA.out BA.out (RH.out.keep (by repeat (first | (with_reducible exact HBB.out) | (with_reducible apply Chg.drew) | (with_reducible apply Chg.drewN) | (with_reducible apply Chg.alloc)))) HL.out.2.2 HB.out.2.2 ln la lh).mono ?_
           rintro e w4 ⟨v4, rfl, ho4, hc4⟩
           obtain ⟨A4, c4, hv4, hn4, hr4⟩ := ow_form ho4
           rw [eaxTagL_length RT.out.hm] at hv4 hn4
           subst hv4
           have R4 := As.mk hr4
           have kcut4 := cut_to (P := Try.prog) 22 5 Try.underlying22 size8 A4 16 c4 (16 : Int) .i64 16 rfl (by omega)
           have HBB4 : As (Chg NoB w w4) := ⟨Chg.trans (S' := NoB) (by repeat (first | (with_reducible exact HBB.out) | (with_reducible apply Chg.drew) | (with_reducible apply Chg.drewN) | (with_reducible apply Chg.alloc))) hc4 (fun _ _ e => e)⟩
           clear HBB ho4 hc4 hr4 hn4
           have HBB := HBB4
           clear HBB4)
        | (go_at_call 11
           with_reducible refine (same_any A4 16 c4 _ (TA.map (fun x => x.add a)) 16 c7 _ _ HT16.out HD7.out (R4.out.keep (by repeat (first | exact Chg.refl _ _ | (with_reducible apply Chg.drew) | (with_reducible apply Chg.alloc)))) (R7.out.keep (by repeat (first | (with_reducible exact HBB.out) | (with_reducible apply Chg.drew) | (with_reducible apply Chg.drewN) | (with_reducible apply Chg.alloc))))).mono ?_
           rintro e ww ⟨he, mm, hww⟩
           rw [HSD.out] at he
           subst he
           have HBB5 : As (Chg NoB w ww) := ⟨by rw [hww]; exact Chg.drewN (by repeat (first | (with_reducible exact HBB.out) | (with_reducible apply Chg.drew) | (with_reducible apply Chg.drewN) | (with_reducible apply Chg.alloc))) mm⟩
           clear HBB hww
           have HBB := HBB5
           clear HBB5))
      all_goals
        go_wp2_with fail
        go_region_held3 (fun _ => True) (trivial) (first
          | (go_at_call 12
             with_reducible refine (specOmac_any PA pc SA sc MA mc perm sub mask 0 NA nn nc nonce _ (PD.out.keep (by repeat (first | (with_reducible exact HBB.out) | (with_reducible apply Chg.drew) | (with_reducible apply Chg.drewN) | (with_reducible apply Chg.alloc)))) RT.out (by omega) (RN.out.keep (by repeat (first | (with_reducible exact HBB.out) | (with_reducible apply Chg.drew) | (with_reducible apply Chg.drewN) | (with_reducible apply Chg.alloc)))) HL.out.1 HB.out.1 (by omega)).mono ?_
             rintro e w8 ⟨v8, rfl, ho8, hc8⟩
             obtain ⟨A8, c8, hv8, _, hr8, _⟩ := own_form ho8
             rw [omac16 RT.out.hm] at hv8
             subst hv8
             have R8 := As.mk hr8
             have HBB8 : As (Chg NoB w w8) := ⟨Chg.trans (S' := NoB) (by repeat (first | (with_reducible exact HBB.out) | (with_reducible apply Chg.drew) | (with_reducible apply Chg.drewN) | (with_reducible apply Chg.alloc))) hc8 (fun _ _ e => e)⟩
             clear HBB ho8 hc8 hr8
             have HBB := HBB8
             clear HBB8)
          | (go_at_call 53
             with_reducible refine (counted_any (text := text.take a) (PD.out.keep (by repeat (first | (with_reducible exact HBB.out) | (with_reducible apply Chg.drew) | (with_reducible apply Chg.drewN) | (with_reducible apply Chg.alloc)))) RT.out (R8.out.keep (by repeat (first | exact Chg.refl _ _ | (with_reducible apply Chg.drew) | (with_reducible apply Chg.alloc)))) (omac16 RT.out.hm _).symm HOB.out (RA.out.keep (by repeat (first | (with_reducible exact HBB.out) | (with_reducible apply Chg.drew) | (with_reducible apply Chg.drewN) | (with_reducible apply Chg.alloc)))) HTA.out hatc BA.out la).mono ?_
             rintro e w9 ⟨v9, rfl, ho9, hc9⟩
             have O9 := As.mk (ow_lower (base' := w.heap.size) ho9 (Chg.size (S := NoB) (w := w) (by repeat (first | (with_reducible exact HBB.out) | (with_reducible apply Chg.drew) | (with_reducible apply Chg.drewN) | (with_reducible apply Chg.alloc)))))
             have HBB9 : As (Chg NoB w w9) := ⟨Chg.trans (S' := NoB) (by repeat (first | (with_reducible exact HBB.out) | (with_reducible apply Chg.drew) | (with_reducible apply Chg.drewN) | (with_reducible apply Chg.alloc))) hc9 (fun _ _ e => e)⟩
             clear HBB ho9 hc9
             have HBB := HBB9
             clear HBB9))
        all_goals
          go_wp2_with fail
          go_ret2
          rw [HRES.out]
          exact ⟨HBB.out, v9, rfl, O9.out⟩
    · have HSD := As.mk (decide_eq_false hs)
      have HRES : As (eaxOpenL perm sub mask nonce text hdr = none) := ⟨by unfold eaxOpenL; rw [HEQ.out, if_neg (fun h => hs h.2)]⟩
      clear hs
      go_enter Try.func39, Try.ntmps39
      go_wp2_with fail
      go_region_held3 (fun _ => True) (trivial) (first
        | (go_at_call 54
           with_reducible refine (eaxTag_any (ct := text.take a) (PD.out.keep (by repeat (first | (with_reducible exact HBB.out) | (with_reducible apply Chg.drew) | (with_reducible apply Chg.drewN) | (with_reducible apply Chg.alloc)))) RT.out (RN.out.keep (by repeat (first | (with_reducible exact HBB.out) | (with_reducible apply Chg.drew) | (with_reducible apply Chg.drewN) | (with_reducible apply Chg.alloc)))) HL.out.1 HB.out.1 (RA.out.keep (by repeat (first | (with_reducible exact HBB.out) | (with_reducible apply Chg.drew) | (with_reducible apply Chg.drewN) | (with_reducible apply Chg.alloc)))) HTA.out BA.out (RH.out.keep (by repeat (first | (with_reducible exact HBB.out) | (with_reducible apply Chg.drew) | (with_reducible apply Chg.drewN) | (with_reducible apply Chg.alloc)))) HL.out.2.2 HB.out.2.2 ln la lh).mono ?_
           rintro e w4 ⟨v4, rfl, ho4, hc4⟩
           obtain ⟨A4, c4, hv4, hn4, hr4⟩ := ow_form ho4
           rw [eaxTagL_length RT.out.hm] at hv4 hn4
           subst hv4
           have R4 := As.mk hr4
           have kcut4 := cut_to (P := Try.prog) 22 5 Try.underlying22 size8 A4 16 c4 (16 : Int) .i64 16 rfl (by omega)
           have HBB4 : As (Chg NoB w w4) := ⟨Chg.trans (S' := NoB) (by repeat (first | (with_reducible exact HBB.out) | (with_reducible apply Chg.drew) | (with_reducible apply Chg.drewN) | (with_reducible apply Chg.alloc))) hc4 (fun _ _ e => e)⟩
           clear HBB ho4 hc4 hr4 hn4
           have HBB := HBB4
           clear HBB4)
        | (go_at_call 11
           with_reducible refine (same_any A4 16 c4 _ (TA.map (fun x => x.add a)) 16 c7 _ _ HT16.out HD7.out (R4.out.keep (by repeat (first | exact Chg.refl _ _ | (with_reducible apply Chg.drew) | (with_reducible apply Chg.alloc)))) (R7.out.keep (by repeat (first | (with_reducible exact HBB.out) | (with_reducible apply Chg.drew) | (with_reducible apply Chg.drewN) | (with_reducible apply Chg.alloc))))).mono ?_
           rintro e ww ⟨he, mm, hww⟩
           rw [HSD.out] at he
           subst he
           have HBB5 : As (Chg NoB w ww) := ⟨by rw [hww]; exact Chg.drewN (by repeat (first | (with_reducible exact HBB.out) | (with_reducible apply Chg.drew) | (with_reducible apply Chg.drewN) | (with_reducible apply Chg.alloc))) mm⟩
           clear HBB hww
           have HBB := HBB5
           clear HBB5))
      all_goals
        go_wp2_with fail
        go_ret2
        rw [HRES.out]
        exact ⟨HBB.out, rfl⟩
  · obtain ⟨z, hz⟩ : ∃ z : Int, z = (tn : Int) - 16 := ⟨_, rfl⟩
    have hz0 : z < 0 := by omega
    have hzw : IntKind.i64.wrap z = z := by simp [IntKind.wrap, IntKind.bits, IntKind.signed]; omega
    have hz2 : (tn : Int) - 16 = z := hz.symm
    have HRES : As (eaxOpenL perm sub mask nonce text hdr = none) := ⟨by unfold eaxOpenL; rw [if_neg (fun h => h16 (by rw [HL.out.2.1]; exact h.1))]⟩
    have HBB : As (Chg NoB w w) := ⟨Chg.refl _ _⟩
    clear hz
    go_enter Try.func39, Try.ntmps39
    go_wp2_with fail
    go_quiet (fail)
    go_wp2_with fail
    go_ret2
    rw [HRES.out]
    exact ⟨(Chg.refl NoB w).drewN _, rfl⟩
end Go.Proofs.Ythbgpbaneghmdaa
