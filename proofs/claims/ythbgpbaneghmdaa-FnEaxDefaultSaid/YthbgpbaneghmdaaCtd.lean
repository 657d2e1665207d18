/- The contract of spec.Counted. (Printed by wip/counted.py.) -/
import Derived.Test.YthbgpbaneghmdaaEaxT
import Derived.Test.YthbgpbaneghmdaaCtrP
set_option linter.unusedVariables false
set_option linter.unusedSimpArgs false
namespace Go.Proofs.Ythbgpbaneghmdaa
open Go.RowKit V
set_option maxRecDepth 100000 in
set_option maxHeartbeats 4000000 in
theorem counted_any {PA : Option Addr} {pc : Nat} {SA : Option Addr} {sc : Nat} {MA : Option Addr} {mc : Nat} {perm sub mask : List Int} {NA : Option Addr} {nc : Nat} {ctr : List Int} {TA : Option Addr} {tn tc : Nat} {text : List Int} {w : World}
    (hd : Pd w PA SA MA perm sub mask) (hrt : Rt perm sub mask) (rn : Rb w NA ctr) (hcl : 16 = ctr.length) (bn : Byt ctr) (rt : Rb w TA text) (htn : tn = text.length) (htc : tn ≤ tc) (bt : Byt text) (lt : tn ≤ 1048576) :
    Calls Try.prog 53 #[.iface 61 (.agg #[.slice PA 16 pc, .slice SA 256 sc, .slice MA 16 mc]), .slice NA 16 nc, .slice TA tn tc] w (GivesW NoB w (ctrL (encL perm sub mask) ctr text)) := by
  have PD := As.mk hd
  have RT := As.mk hrt
  have RN := As.mk rn
  have HCL := As.mk hcl
  have HB := As.mk (And.intro bn bt)
  have RX := As.mk rt
  have HTN := As.mk htn
  have HE : As (∀ x, (encL perm sub mask x).length = 16) := ⟨fun x => by rw [encL_length]; exact hrt.hm⟩
  have HEB : As (∀ x, Byt (encL perm sub mask x)) := ⟨fun x => encL_byt x hrt.bs hrt.bm⟩
  have na := na_sen
  have me := me_sen
  clear hd hrt rn hcl bn rt htn bt
  go_enter Try.func53, Try.ntmps53
  go_wp2_with (at_builtin; refine wpList_append_e rfl _ _ 22 rfl 5 .u8 1 Try.underlying22 info8 (by decide) _ w.heap.size ctr NA 16 nc rfl rfl HCL.out (RN.out.keep (by repeat (first | exact Chg.refl _ _ | (with_reducible apply Chg.drew) | (with_reducible apply Chg.alloc)))) (Chg.size (S := NoB) (w := w) (by repeat (first | exact Chg.refl _ _ | (with_reducible apply Chg.drew) | (with_reducible apply Chg.alloc)))) (by rw [← HCL.out]; omega) ?_; intro v2 w2 ho2 hc2; have HC2 : As (Chg NoB w w2) := ⟨Chg.trans (S := NoB) (S' := NoB) (by repeat (first | exact Chg.refl _ _ | (with_reducible apply Chg.drew) | (with_reducible apply Chg.alloc))) hc2 (fun _ _ e => e)⟩; obtain ⟨g, cc, hv2, _, hg1, hg2⟩ := own_form_pos (ow_own ho2 (by rw [← HCL.out]; omega)) (by rw [← HCL.out]; omega); rw [← HCL.out] at hv2; subst hv2; have O2 := As.mk (ow_own ho2 (by rw [← HCL.out]; omega)); have HG : As (w.heap.size ≤ g ∧ g < w2.heap.size) := ⟨⟨hg1, hg2⟩⟩; clear ho2 hc2 hg1 hg2)
  go_loopw [2, 8] (fun tv av wr => ∃ (r p : Nat) (A' : Option Addr) (n' c' : Nat) (ac : Value), tv = .slice A' n' c' ∧ ac = av ∧ n' ≤ c' ∧ n' + p = tn ∧ As (p = 16 * r ∨ p = tn) ∧ As (Rb w A' (text.drop p)) ∧ As (Own wr w.heap.size 5 .u8 (.slice (some ⟨g, 0, none⟩) 16 cc) (incN r ctr)) ∧ As (Ow wr w2.heap.size 5 .u8 ac (ctrL (encL perm sub mask) ctr (text.take p))) ∧ As (Chg NoB w wr) ∧ As (w2.heap.size ≤ wr.heap.size)) (fun tv _ _ => match tv with | .slice _ n _ => n | _ => 0)
  case atStart => exact ⟨0, 0, TA, tn, tc, _, rfl, rfl, htc, rfl, ⟨.inl rfl⟩, ⟨by simpa using RX.out⟩, O2, ⟨by simpa [ctrL, tab] using ow_of (own_nil w2 w2.heap.size 5 .u8)⟩, HC2, ⟨Nat.le_refl _⟩⟩
  case round =>
    obtain ⟨r, p, A', n', c', ac, rfl, rfl, hnc, hnp, HP, HX, HO, HA, HC, HW2⟩ := hrel
    by_cases h0 : n' = 0
    · have hz : ¬ ((n' : Int) > 0) := by omega
      subst h0
      have HPT : As (text.take p = text) := ⟨List.take_of_length_le (by have := HTN.out; omega)⟩
      go_wp2_with fail
      go_ret
      refine ⟨_, rfl, ?_, HC.out⟩
      have h1 := HA.out
      rw [HPT.out] at h1
      exact ow_lower h1 HC2.out.size
    · have hz : (0 : Int) < (n' : Int) := by omega
      have HPR : As (p = 16 * r) := ⟨by rcases HP.out with h | h; exact h; omega⟩
      have HNP := As.mk hnp
      have HDL : As ((text.drop p).length = n') := ⟨by rw [List.length_drop, ← HTN.out]; omega⟩
      by_cases h16 : 16 ≤ n'
      · have i16 : (16 : Int) ≤ (n' : Int) := by omega
        have kcut := cut_to (P := Try.prog) 22 5 Try.underlying22 size8 A' n' c' (16 : Int) .i64 16 rfl (by omega)
        have HXM : As (Rb w A' ((text.drop p).take 16)) := ⟨HX.out.take_ 16⟩
        have HML : As (16 = ((text.drop p).take 16).length) := ⟨by rw [List.length_take, HDL.out]; omega⟩
        have HIL : As (16 = (incN r ctr).length) := ⟨by rw [incN_length]; exact HCL.out⟩
        have HIB : As (Byt (incN r ctr)) := ⟨incN_byt r ctr HB.out.1⟩
        have HBB : As (Chg NoB wr wr) := ⟨Chg.refl _ _⟩
        obtain ⟨n7, hn7⟩ : ∃ n7, n7 + 16 = n' := ⟨n' - 16, by omega⟩
        obtain ⟨c7, hc7⟩ : ∃ c7, c7 + 16 = c' := ⟨c' - 16, by omega⟩
        obtain ⟨A7, k7, _, hR7⟩ := cut_from (P := Try.prog) 22 5 Try.underlying22 size8 A' n' c' (16 : Int) .i64 n7 c7 (by omega) (by omega) (by omega) hnc
        have HX7 : As (Rb w A7 (text.drop (p + 16))) := ⟨by
          have h := hR7 w .u8 (text.drop p) HDL.out HX.out
          rw [List.drop_drop] at h
          exact h⟩
        have HN7 : As (n7 + 16 = n' ∧ c7 + 16 = c') := ⟨hn7, hc7⟩
        clear hnp hn7 hc7 hR7
        go_wp2_with fail
        go_region_held3 (fun _ => True) (trivial) (first
          | (go_at_call 91
             refine (enc16 (PD.out.keep (Chg.trans (S' := NoB) HC.out (by repeat (first | (with_reducible exact HBB.out) | (with_reducible apply Chg.drew) | (with_reducible apply Chg.alloc))) (fun _ _ e => e))) RT.out ((own_reads HO.out).keep (by repeat (first | (with_reducible exact HBB.out) | (with_reducible apply Chg.drew) | (with_reducible apply Chg.alloc)))) HIB.out HIL.out).mono ?_
             rintro e w4 ⟨v4, rfl, ho4, hc4⟩
             obtain ⟨A4, c4, hv4, hn4, hr4, _⟩ := own_form ho4
             rw [HE.out] at hv4 hn4
             subst hv4
             have R4 : As (Rb w4 A4 ((encL perm sub mask (incN r ctr)).take 16)) := ⟨hr4.take_ 16⟩
             have HL4 : As (16 = ((encL perm sub mask (incN r ctr)).take 16).length) := ⟨by rw [List.length_take, HE.out]; omega⟩
             have kcut4 := cut_to (P := Try.prog) 22 5 Try.underlying22 size8 A4 16 c4 (16 : Int) .i64 16 rfl (by omega)
             have HBB4 : As (Chg NoB wr w4) := ⟨Chg.trans (S' := NoB) (by repeat (first | (with_reducible exact HBB.out) | (with_reducible apply Chg.drew) | (with_reducible apply Chg.alloc))) hc4 (fun _ _ e => e)⟩
             clear HBB ho4 hc4 hr4 hn4
             have HBB := HBB4
             clear HBB4)
          | (go_at_call 33
             refine (specXored_any A' 16 c' _ A4 16 c4 _ _ HML.out HL4.out (HXM.out.keep (Chg.trans (S' := NoB) HC.out (by repeat (first | (with_reducible exact HBB.out) | (with_reducible apply Chg.drew) | (with_reducible apply Chg.alloc))) (fun _ _ e => e))) (R4.out.keep (by repeat (first | exact Chg.refl _ _ | (with_reducible apply Chg.drew) | (with_reducible apply Chg.alloc)))) (by rw [← HML.out]; omega)).mono ?_
             rintro e w5 ⟨v5, rfl, ho5, hc5⟩
             obtain ⟨A5, c5, hv5, _, hr5⟩ := ow_form ho5
             rw [xorL_len, ← HML.out] at hv5
             subst hv5
             have R5 := As.mk hr5
             have HBB5 : As (Chg NoB wr w5) := ⟨Chg.trans (S' := NoB) (by repeat (first | (with_reducible exact HBB.out) | (with_reducible apply Chg.drew) | (with_reducible apply Chg.alloc))) hc5 (fun _ _ e => e)⟩
             clear HBB ho5 hc5 hr5
             have HBB := HBB5
             clear HBB5)
          | (refine step_append_ow (N := 30) rfl rfl _ _ 22 rfl 5 .u8 1 Try.underlying22 info8 (by decide) ac w2.heap.size _ _ A5 16 c5 rfl rfl ?r4 (ow_keep HA.out (by repeat (first | (with_reducible exact HBB.out) | (with_reducible apply Chg.drew) | (with_reducible apply Chg.alloc)))) (R5.out.keep (by repeat (first | exact Chg.refl _ _ | (with_reducible apply Chg.drew) | (with_reducible apply Chg.alloc)))) ?r1 ?r2 ?_
             case r4 => (rw [xorL_len]; exact HML.out)
             case r1 => exact Nat.le_trans HW2.out (Chg.size (S := NoB) (w := wr) (by repeat (first | (with_reducible exact HBB.out) | (with_reducible apply Chg.drew) | (with_reducible apply Chg.alloc))))
             case r2 => (rw [xorL_len, ctrL_length, ← HML.out, List.length_take]; have := HTN.out; omega)
             intro v6 w6 ho6 hc6
             have HO6 : As (Ow w6 w2.heap.size 5 .u8 v6 (ctrL (encL perm sub mask) ctr (text.take (16 * r + 16)))) := ⟨by
               rw [ctrL_step HE.out text r 16 (by omega) (by have := HPR.out; have := HTN.out; have := HNP.out; omega)]
               rw [HPR.out] at ho6
               exact ho6⟩
             have HBB6 : As (Chg (OvS w2.heap.size ac) wr w6) := ⟨Chg.trans (S' := OvS w2.heap.size ac) (Chg.mono (S := NoB) (by repeat (first | (with_reducible exact HBB.out) | (with_reducible apply Chg.drew) | (with_reducible apply Chg.alloc))) (fun _ _ e => e.elim)) hc6 (fun _ _ e => e)⟩
             clear HBB ho6 hc6))
        all_goals
          go_wp2_with fail
          have HC6 : As (Chg NoB w w6) := ⟨HC.out.trans HBB6.out (fun i hi e => by have h1 := e.1; have := HC2.out.size; omega)⟩
          have HOC6 : As (Own w6 w.heap.size 5 .u8 (.slice (some ⟨g, 0, none⟩) 16 cc) (incN r ctr)) := ⟨own_chg HO.out HBB6.out (fun b hb e => by injection hb with hb; subst hb; have h1 := e.1; have h2 := HG.out.2; exact absurd (Nat.lt_of_lt_of_le h2 h1) (Nat.lt_irrefl _))⟩
          have HW6 : As (w2.heap.size ≤ w6.heap.size) := ⟨Nat.le_trans HW2.out HBB6.out.size⟩
          have HFIN : As (∀ (wz : World) (cur : List Int), cur = incN (r + 1) ctr → Own wz w.heap.size 5 .u8 (.slice (some ⟨g, 0, none⟩) 16 cc) cur → Chg (fun b => b = g) w6 wz → ∃ (r2 p2 : Nat) (A2 : Option Addr) (n2 c2 : Nat) (ac2 : Value), Value.slice A7 n7 c7 = .slice A2 n2 c2 ∧ ac2 = v6 ∧ n2 ≤ c2 ∧ n2 + p2 = tn ∧ As (p2 = 16 * r2 ∨ p2 = tn) ∧ As (Rb w A2 (text.drop p2)) ∧ As (Own wz w.heap.size 5 .u8 (.slice (some ⟨g, 0, none⟩) 16 cc) (incN r2 ctr)) ∧ As (Ow wz w2.heap.size 5 .u8 ac2 (ctrL (encL perm sub mask) ctr (text.take p2))) ∧ As (Chg NoB w wz) ∧ As (w2.heap.size ≤ wz.heap.size)) := ⟨fun wz cur hcur ho hc => by
            refine ⟨r + 1, p + 16, A7, n7, c7, v6, rfl, rfl, by have := HN7.out; omega, by have := HN7.out; have := HNP.out; omega, ⟨by have := HN7.out; have := HNP.out; have := HPR.out; omega⟩, HX7, ⟨by rw [← hcur]; exact ho⟩, ⟨?_⟩, ⟨HC6.out.trans hc (fun b hb e => by have h1 : b = g := e; have := HG.out.1; omega)⟩, ⟨Nat.le_trans HW6.out hc.size⟩⟩
            rw [HPR.out]
            exact ow_chg HO6.out hc (fun b hb h1 e => by have h2 : b = g := e; have := HG.out.2; omega)⟩
          go_loopw [10] (fun iv wz => ∃ (k : Nat) (cur : List Int), k ≤ 16 ∧ iv = .int .i64 ((k : Int) - 1) ∧ As (inc k cur = incN (r + 1) ctr) ∧ As (16 = cur.length ∧ Byt cur) ∧ As (Own wz w.heap.size 5 .u8 (.slice (some ⟨g, 0, none⟩) 16 cc) cur) ∧ As (Chg (fun b => b = g) w6 wz)) (fun iv _ => (intOf iv + 1).toNat)
          case atStart => exact ⟨16, incN r ctr, Nat.le_refl _, rfl, ⟨rfl⟩, ⟨HIL.out, HIB.out⟩, HOC6, ⟨Chg.refl _ _⟩⟩
          case round =>
            rename_i wz
            obtain ⟨k, cur, hk, rfl, HI, HL, HOC, HCC⟩ := hrel
            cases k with
            | zero =>
              have hneg : ¬ ((0 : Int) ≤ ((0 : Nat) : Int) - 1) := by omega
              go_wp2_with fail
              go_roundw
              case rel => exact HFIN.out _ cur HI.out HOC.out HCC.out
              case measure => have := HN7.out; simp; omega
            | succ k =>
              have e : (((k + 1 : Nat) : Int) - 1) = (k : Int) := by omega
              rw [e]
              obtain ⟨hc0, fz⟩ := own_at HOC.out k (by have := HL.out.1; omega)
              rw [rd_nat] at hc0
              have hx := HL.out.2.getD k
              have hset := own_set HOC.out k
              have HSET := As.mk hset
              obtain ⟨x, hxe⟩ : ∃ x, x = cur.getD k 0 := ⟨_, rfl⟩
              have HXE := As.mk hxe
              rw [← hxe] at hc0 hx
              have hk0 : (0 : Int) ≤ (k : Int) := by omega
              have hk1 : (k : Int) < 16 := by omega
              clear hset hxe e
              by_cases h255 : x = 255
              · subst h255
                have HI2 : As (inc k (cur.set k 0) = incN (r + 1) ctr) := ⟨by have h := HI.out; unfold inc at h; rwa [if_pos HXE.out.symm] at h⟩
                have hy : IntKind.u8.wrap (255 + 1) = 0 := by decide
                go_wp2_with fail
                go_roundw
                case rel => exact ⟨k, cur.set k 0, by omega, rfl, HI2, ⟨by rw [List.length_set]; exact HL.out.1, fun z hz => by rcases List.mem_or_eq_of_mem_set hz with h2 | h2; exact HL.out.2 z h2; rw [h2]; omega⟩, ⟨HSET.out 0⟩, ⟨HCC.out.setCell (p := ⟨g, k, none⟩) _ (fun _ => rfl)⟩⟩
                case measure => simp [intOf]
              · obtain ⟨y, hy⟩ : ∃ y, y = x + 1 := ⟨_, rfl⟩
                have HI2 : As (cur.set k y = incN (r + 1) ctr) := ⟨by have h := HI.out; unfold inc at h; rw [if_neg (by rw [← HXE.out]; exact h255)] at h; rw [hy, HXE.out]; exact h⟩
                have hy2 : IntKind.u8.wrap y = y := by simp [IntKind.wrap, IntKind.bits, IntKind.signed]; omega
                have hy3 : (y != 0) = true := by simp; omega
                have hy4 : x + 1 = y := hy.symm
                clear hy
                go_wp2_with fail
                go_roundw
                case rel => exact HFIN.out _ _ HI2.out (HSET.out y) (HCC.out.setCell (p := ⟨g, k, none⟩) _ (fun _ => rfl))
                case measure => have := HN7.out; simp; omega
      · have i16 : ¬ (16 : Int) ≤ (n' : Int) := by omega
        have kcut := cut_to (P := Try.prog) 22 5 Try.underlying22 size8 A' n' c' (n' : Int) .i64 n' rfl (by omega)
        have HXM : As (Rb w A' ((text.drop p).take n')) := ⟨HX.out.take_ n'⟩
        have HML : As (n' = ((text.drop p).take n').length) := ⟨by rw [List.length_take, HDL.out]; omega⟩
        have HIL : As (16 = (incN r ctr).length) := ⟨by rw [incN_length]; exact HCL.out⟩
        have HIB : As (Byt (incN r ctr)) := ⟨incN_byt r ctr HB.out.1⟩
        have HBB : As (Chg NoB wr wr) := ⟨Chg.refl _ _⟩
        obtain ⟨n7, hn7⟩ : ∃ n7, n7 + n' = n' := ⟨n' - n', by omega⟩
        obtain ⟨c7, hc7⟩ : ∃ c7, c7 + n' = c' := ⟨c' - n', by omega⟩
        obtain ⟨A7, k7, _, hR7⟩ := cut_from (P := Try.prog) 22 5 Try.underlying22 size8 A' n' c' (n' : Int) .i64 n7 c7 (by omega) (by omega) (by omega) hnc
        have HX7 : As (Rb w A7 (text.drop (p + n'))) := ⟨by
          have h := hR7 w .u8 (text.drop p) HDL.out HX.out
          rw [List.drop_drop] at h
          exact h⟩
        have HN7 : As (n7 + n' = n' ∧ c7 + n' = c') := ⟨hn7, hc7⟩
        clear hnp hn7 hc7 hR7
        go_wp2_with fail
        go_region_held3 (fun _ => True) (trivial) (first
          | (go_at_call 91
             refine (enc16 (PD.out.keep (Chg.trans (S' := NoB) HC.out (by repeat (first | (with_reducible exact HBB.out) | (with_reducible apply Chg.drew) | (with_reducible apply Chg.alloc))) (fun _ _ e => e))) RT.out ((own_reads HO.out).keep (by repeat (first | (with_reducible exact HBB.out) | (with_reducible apply Chg.drew) | (with_reducible apply Chg.alloc)))) HIB.out HIL.out).mono ?_
             rintro e w4 ⟨v4, rfl, ho4, hc4⟩
             obtain ⟨A4, c4, hv4, hn4, hr4, _⟩ := own_form ho4
             rw [HE.out] at hv4 hn4
             subst hv4
             have R4 : As (Rb w4 A4 ((encL perm sub mask (incN r ctr)).take n')) := ⟨hr4.take_ n'⟩
             have HL4 : As (n' = ((encL perm sub mask (incN r ctr)).take n').length) := ⟨by rw [List.length_take, HE.out]; omega⟩
             have kcut4 := cut_to (P := Try.prog) 22 5 Try.underlying22 size8 A4 16 c4 (n' : Int) .i64 n' rfl (by omega)
             have HBB4 : As (Chg NoB wr w4) := ⟨Chg.trans (S' := NoB) (by repeat (first | (with_reducible exact HBB.out) | (with_reducible apply Chg.drew) | (with_reducible apply Chg.alloc))) hc4 (fun _ _ e => e)⟩
             clear HBB ho4 hc4 hr4 hn4
             have HBB := HBB4
             clear HBB4)
          | (go_at_call 33
             refine (specXored_any A' n' c' _ A4 n' c4 _ _ HML.out HL4.out (HXM.out.keep (Chg.trans (S' := NoB) HC.out (by repeat (first | (with_reducible exact HBB.out) | (with_reducible apply Chg.drew) | (with_reducible apply Chg.alloc))) (fun _ _ e => e))) (R4.out.keep (by repeat (first | exact Chg.refl _ _ | (with_reducible apply Chg.drew) | (with_reducible apply Chg.alloc)))) (by rw [← HML.out]; omega)).mono ?_
             rintro e w5 ⟨v5, rfl, ho5, hc5⟩
             obtain ⟨A5, c5, hv5, _, hr5⟩ := ow_form ho5
             rw [xorL_len, ← HML.out] at hv5
             subst hv5
             have R5 := As.mk hr5
             have HBB5 : As (Chg NoB wr w5) := ⟨Chg.trans (S' := NoB) (by repeat (first | (with_reducible exact HBB.out) | (with_reducible apply Chg.drew) | (with_reducible apply Chg.alloc))) hc5 (fun _ _ e => e)⟩
             clear HBB ho5 hc5 hr5
             have HBB := HBB5
             clear HBB5)
          | (refine step_append_ow (N := 30) rfl rfl _ _ 22 rfl 5 .u8 1 Try.underlying22 info8 (by decide) ac w2.heap.size _ _ A5 n' c5 rfl rfl ?r4 (ow_keep HA.out (by repeat (first | (with_reducible exact HBB.out) | (with_reducible apply Chg.drew) | (with_reducible apply Chg.alloc)))) (R5.out.keep (by repeat (first | exact Chg.refl _ _ | (with_reducible apply Chg.drew) | (with_reducible apply Chg.alloc)))) ?r1 ?r2 ?_
             case r4 => (rw [xorL_len]; exact HML.out)
             case r1 => exact Nat.le_trans HW2.out (Chg.size (S := NoB) (w := wr) (by repeat (first | (with_reducible exact HBB.out) | (with_reducible apply Chg.drew) | (with_reducible apply Chg.alloc))))
             case r2 => (rw [xorL_len, ctrL_length, ← HML.out, List.length_take]; have := HTN.out; omega)
             intro v6 w6 ho6 hc6
             have HO6 : As (Ow w6 w2.heap.size 5 .u8 v6 (ctrL (encL perm sub mask) ctr (text.take (16 * r + n')))) := ⟨by
               rw [ctrL_step HE.out text r n' (by omega) (by have := HPR.out; have := HTN.out; have := HNP.out; omega)]
               rw [HPR.out] at ho6
               exact ho6⟩
             have HBB6 : As (Chg (OvS w2.heap.size ac) wr w6) := ⟨Chg.trans (S' := OvS w2.heap.size ac) (Chg.mono (S := NoB) (by repeat (first | (with_reducible exact HBB.out) | (with_reducible apply Chg.drew) | (with_reducible apply Chg.alloc))) (fun _ _ e => e.elim)) hc6 (fun _ _ e => e)⟩
             clear HBB ho6 hc6))
        all_goals
          go_wp2_with fail
          have HC6 : As (Chg NoB w w6) := ⟨HC.out.trans HBB6.out (fun i hi e => by have h1 := e.1; have := HC2.out.size; omega)⟩
          have HOC6 : As (Own w6 w.heap.size 5 .u8 (.slice (some ⟨g, 0, none⟩) 16 cc) (incN r ctr)) := ⟨own_chg HO.out HBB6.out (fun b hb e => by injection hb with hb; subst hb; have h1 := e.1; have h2 := HG.out.2; exact absurd (Nat.lt_of_lt_of_le h2 h1) (Nat.lt_irrefl _))⟩
          have HW6 : As (w2.heap.size ≤ w6.heap.size) := ⟨Nat.le_trans HW2.out HBB6.out.size⟩
          have HFIN : As (∀ (wz : World) (cur : List Int), cur = incN (r + 1) ctr → Own wz w.heap.size 5 .u8 (.slice (some ⟨g, 0, none⟩) 16 cc) cur → Chg (fun b => b = g) w6 wz → ∃ (r2 p2 : Nat) (A2 : Option Addr) (n2 c2 : Nat) (ac2 : Value), Value.slice A7 n7 c7 = .slice A2 n2 c2 ∧ ac2 = v6 ∧ n2 ≤ c2 ∧ n2 + p2 = tn ∧ As (p2 = 16 * r2 ∨ p2 = tn) ∧ As (Rb w A2 (text.drop p2)) ∧ As (Own wz w.heap.size 5 .u8 (.slice (some ⟨g, 0, none⟩) 16 cc) (incN r2 ctr)) ∧ As (Ow wz w2.heap.size 5 .u8 ac2 (ctrL (encL perm sub mask) ctr (text.take p2))) ∧ As (Chg NoB w wz) ∧ As (w2.heap.size ≤ wz.heap.size)) := ⟨fun wz cur hcur ho hc => by
            refine ⟨r + 1, p + n', A7, n7, c7, v6, rfl, rfl, by have := HN7.out; omega, by have := HN7.out; have := HNP.out; omega, ⟨by have := HN7.out; have := HNP.out; have := HPR.out; omega⟩, HX7, ⟨by rw [← hcur]; exact ho⟩, ⟨?_⟩, ⟨HC6.out.trans hc (fun b hb e => by have h1 : b = g := e; have := HG.out.1; omega)⟩, ⟨Nat.le_trans HW6.out hc.size⟩⟩
            rw [HPR.out]
            exact ow_chg HO6.out hc (fun b hb h1 e => by have h2 : b = g := e; have := HG.out.2; omega)⟩
          go_loopw [10] (fun iv wz => ∃ (k : Nat) (cur : List Int), k ≤ 16 ∧ iv = .int .i64 ((k : Int) - 1) ∧ As (inc k cur = incN (r + 1) ctr) ∧ As (16 = cur.length ∧ Byt cur) ∧ As (Own wz w.heap.size 5 .u8 (.slice (some ⟨g, 0, none⟩) 16 cc) cur) ∧ As (Chg (fun b => b = g) w6 wz)) (fun iv _ => (intOf iv + 1).toNat)
          case atStart => exact ⟨16, incN r ctr, Nat.le_refl _, rfl, ⟨rfl⟩, ⟨HIL.out, HIB.out⟩, HOC6, ⟨Chg.refl _ _⟩⟩
          case round =>
            rename_i wz
            obtain ⟨k, cur, hk, rfl, HI, HL, HOC, HCC⟩ := hrel
            cases k with
            | zero =>
              have hneg : ¬ ((0 : Int) ≤ ((0 : Nat) : Int) - 1) := by omega
              go_wp2_with fail
              go_roundw
              case rel => exact HFIN.out _ cur HI.out HOC.out HCC.out
              case measure => have := HN7.out; simp; omega
            | succ k =>
              have e : (((k + 1 : Nat) : Int) - 1) = (k : Int) := by omega
              rw [e]
              obtain ⟨hc0, fz⟩ := own_at HOC.out k (by have := HL.out.1; omega)
              rw [rd_nat] at hc0
              have hx := HL.out.2.getD k
              have hset := own_set HOC.out k
              have HSET := As.mk hset
              obtain ⟨x, hxe⟩ : ∃ x, x = cur.getD k 0 := ⟨_, rfl⟩
              have HXE := As.mk hxe
              rw [← hxe] at hc0 hx
              have hk0 : (0 : Int) ≤ (k : Int) := by omega
              have hk1 : (k : Int) < 16 := by omega
              clear hset hxe e
              by_cases h255 : x = 255
              · subst h255
                have HI2 : As (inc k (cur.set k 0) = incN (r + 1) ctr) := ⟨by have h := HI.out; unfold inc at h; rwa [if_pos HXE.out.symm] at h⟩
                have hy : IntKind.u8.wrap (255 + 1) = 0 := by decide
                go_wp2_with fail
                go_roundw
                case rel => exact ⟨k, cur.set k 0, by omega, rfl, HI2, ⟨by rw [List.length_set]; exact HL.out.1, fun z hz => by rcases List.mem_or_eq_of_mem_set hz with h2 | h2; exact HL.out.2 z h2; rw [h2]; omega⟩, ⟨HSET.out 0⟩, ⟨HCC.out.setCell (p := ⟨g, k, none⟩) _ (fun _ => rfl)⟩⟩
                case measure => simp [intOf]
              · obtain ⟨y, hy⟩ : ∃ y, y = x + 1 := ⟨_, rfl⟩
                have HI2 : As (cur.set k y = incN (r + 1) ctr) := ⟨by have h := HI.out; unfold inc at h; rw [if_neg (by rw [← HXE.out]; exact h255)] at h; rw [hy, HXE.out]; exact h⟩
                have hy2 : IntKind.u8.wrap y = y := by simp [IntKind.wrap, IntKind.bits, IntKind.signed]; omega
                have hy3 : (y != 0) = true := by simp; omega
                have hy4 : x + 1 = y := hy.symm
                clear hy
                go_wp2_with fail
                go_roundw
                case rel => exact HFIN.out _ _ HI2.out (HSET.out y) (HCC.out.setCell (p := ⟨g, k, none⟩) _ (fun _ => rfl))
                case measure => have := HN7.out; simp; omega
end Go.Proofs.Ythbgpbaneghmdaa
