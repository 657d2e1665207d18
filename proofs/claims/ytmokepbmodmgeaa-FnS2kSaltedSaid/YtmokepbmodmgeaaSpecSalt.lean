/- The contracts of spec.Mixer and of spec.S2kSalted. -/
import Derived.Test.YtmokepbmodmgeaaStretched
set_option linter.unusedVariables false
set_option linter.unusedSimpArgs false
namespace Go.Proofs.Ytmokepbmodmgeaa
open Go.RowKit V
set_option maxRecDepth 100000 in
set_option maxHeartbeats 1000000 in
theorem mixer_any (SA : Option Addr) (sn sc : Nat) (MA : Option Addr) (mn mc : Nat) (w : World) :
    Calls Try.prog 14 #[.agg #[.slice SA sn sc, .slice MA mn mc]] w fun e w' => e = .returned (.iface 51 (.agg #[.slice SA sn sc, .slice MA mn mc])) ∧ Chg NoB w w' := by
  have B0 := As.mk (Blk.new w 24 [.slice SA sn sc, .slice MA mn mc])
  have C0 := As.mk ((Chg.refl NoB w).alloc (.cells #[.slice SA sn sc, .slice MA mn mc] 24))
  go_enter Try.func14, Try.ntmps14
  go_wp2_with fail
  go_ret
  refine ⟨rfl, ?_⟩
  repeat (first | exact Chg.refl _ _ | (with_reducible apply Chg.drew) | (with_reducible apply Chg.alloc))
set_option maxRecDepth 100000 in
set_option maxHeartbeats 1000000 in
theorem specSalted_any (SA : Option Addr) (sc : Nat) (MA : Option Addr) (n mc : Nat) (sub mask : List Int) (size : Nat) (PA : Option Addr) (pn pc : Nat) (TA : Option Addr) (tn tc : Nat) (pass salt : List Int) (w : World) (hs : sub.length = 256) (hm : mask.length = n) (hn1 : 1 ≤ n) (hn2 : n ≤ 64) (rs : Rb w SA sub) (rm : Rb w MA mask) (bs : Byt sub) (bm : Byt mask) (rp : Rb w PA pass) (rt : Rb w TA salt) (hpn : pn = pass.length) (htn : tn = salt.length) (hp2 : pn ≤ 2147483647) (ht2 : tn ≤ 2147483647) (bp : Byt pass) (bt : Byt salt) (hsz : size ≤ 65536) :
    Calls Try.prog 13 #[.iface 51 (.agg #[.slice SA 256 sc, .slice MA n mc]), .int .i64 size, .slice PA pn pc, .slice TA tn tc] w (Gives NoB w (stretch sub n mask (salt ++ pass) size)) := by
  have HA := As.mk (fun A c w' (hc : Chg NoB w w') (ht : Rb w' A (salt ++ pass)) => stretched_any SA sc MA n mc sub mask size A (tn + pn) c (salt ++ pass) w' hs hm hn1 hn2 (rs.keep hc) (rm.keep hc) bs bm ht (by rw [List.length_append]; omega) (by omega) (bt.append bp) hsz)
  have RP := As.mk rp
  have RT := As.mk rt
  have HL := As.mk (And.intro htn (And.intro hpn (And.intro ht2 hp2)))
  clear hs hm hn1 hn2 rs rm bs bm rp rt hpn htn hp2 ht2 bp bt hsz
  go_enter Try.func13, Try.ntmps13
  go_wp2_with (first
    | ((with_reducible refine gate (N := 13) rfl ?_)
       refine wpList_append_e rfl _ _ 22 rfl 5 .u8 1 Try.underlying22 info8 (by decide) _ w.heap.size salt TA tn tc rfl rfl HL.out.1 (RT.out.keep ?r1) ?r2 (by have := HL.out; omega) ?_
       (case r1 => repeat (first | exact Chg.refl _ _ | (with_reducible apply Chg.drew) | (with_reducible apply Chg.alloc)))
       (case r2 => exact (Chg.size (S := NoB) (by repeat (first | exact Chg.refl _ _ | (with_reducible apply Chg.drew) | (with_reducible apply Chg.alloc)))))
       intro v1 w1 ho1 hc1
       have HO1 := As.mk ho1
       have HC1 : As (Chg NoB w w1) := ⟨Chg.trans (by repeat (first | exact Chg.refl _ _ | (with_reducible apply Chg.drew) | (with_reducible apply Chg.alloc))) hc1 (fun _ _ e => e)⟩
       clear ho1 hc1)
    | ((with_reducible refine gate (N := 15) rfl ?_)
       refine wpList_append_ow rfl _ _ 22 rfl 5 .u8 1 Try.underlying22 info8 (by decide) v1 w.heap.size salt pass PA pn pc rfl rfl HL.out.2.1 HO1.out (RP.out.keep HC1.out) HC1.out.size (by have := HL.out; omega) ?_
       intro v2 w2 ho2 hc2
       obtain ⟨A2, c2, hv2, _, hr2⟩ := ow_form ho2
       rw [show (salt ++ pass).length = tn + pn from by rw [List.length_append, HL.out.1, HL.out.2.1]] at hv2
       subst hv2
       have HR2 := As.mk hr2
       have HC2 : As (Chg NoB w w2) := ⟨HC1.out.trans hc2 (fun b hb e => by have := e.1; omega)⟩
       clear ho2 hc2 hr2))
  refine (HA.out A2 c2 _ HC2.out HR2.out).mono ?_
  rintro e w3 ⟨v3, rfl, ho3, hc3⟩
  have HO3 := As.mk (own_lower ho3 HC2.out.size)
  have HC3 := As.mk (HC2.out.trans hc3 (fun _ _ e => e))
  clear ho3 hc3
  go_wp2_with fail
  go_ret
  exact ⟨_, rfl, HO3.out, HC3.out⟩
end Go.Proofs.Ytmokepbmodmgeaa
