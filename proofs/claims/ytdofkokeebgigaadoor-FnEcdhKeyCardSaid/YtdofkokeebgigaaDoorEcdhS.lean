/- The contracts of spec.KeyParam and spec.KeyDerived. -/
import Derived.Test.YtdofkokeebgigaaDoorEcdhB
import Derived.Test.YtdofkokeebgigaaDoorMixer
set_option linter.unusedVariables false
set_option linter.unusedSimpArgs false
namespace Go.Proofs.YtdofkokeebgigaaDoor
open Go.RowKit V
theorem na_msum (v1 v2 : Value) (w : World) : (nilAhead 243 48 (.agg #[v1, v2]) "Sum").run Tryd.prog w = .ok (some false) w := by kernel_rfl
theorem me_msum (v1 v2 : Value) (w : World) : (method 243 48 (.agg #[v1, v2]) "Sum").run Tryd.prog w = .ok (47, .agg #[v1, v2]) w := by kernel_rfl
set_option maxRecDepth 100000 in
set_option maxHeartbeats 1000000 in
theorem keyDerived_any (SA : Option Addr) (sc : Nat) (MA : Option Addr) (n mc : Nat) (sub mask : List Int) (ks : Nat) (ZA : Option Addr) (zn zc : Nat) (zb : List Int) (PA : Option Addr) (pn pc : Nat) (par : List Int) (w : World) (hs : sub.length = 256) (hm : mask.length = n) (n1 : 1 ≤ n) (n2 : n ≤ 64) (rs : Rb w SA sub) (rm : Rb w MA mask) (bs : Byt sub) (bm : Byt mask)
    (rz : Rb w ZA zb) (hzn : zn = zb.length) (hz2 : zn ≤ 2147483647) (bz : Byt zb) (rp : Rb w PA par) (hpn : pn = par.length) (hp2 : pn ≤ 2147483647) (bp : Byt par) (hks : ks ≤ n) :
    Calls Tryd.prog 9 #[.iface 48 (.agg #[.slice SA 256 sc, .slice MA n mc]), .int .i64 ks, .slice ZA zn zc, .slice PA pn pc] w fun e w' => (∃ A c, e = .returned (.slice A ks c) ∧ Rb w' A ((dmix sub n (mask, 0) ([0, 0, 0, 1] ++ zb ++ par)).1.take ks)) ∧ Chg NoB w w' := by
  have HSM := As.mk (fun A m c w' (hc : Chg NoB w w') (hml : m = ([0, 0, 0, 1] ++ zb ++ par).length) (hr : Rb w' A ([0, 0, 0, 1] ++ zb ++ par)) => mixSum_any SA sc MA n mc sub mask A m c ([0, 0, 0, 1] ++ zb ++ par) w' hs hm n1 n2 (rs.keep hc) (rm.keep hc) bs bm hr hml ((Byt.append (by intro x hx; revert x; decide) bz).append bp))
  have HLK : As ((dmix sub n (mask, 0) ([0, 0, 0, 1] ++ zb ++ par)).1.length = n) := ⟨(okst_mix bs n1 _ (mask, 0) ⟨hm, bm, by omega⟩).1⟩
  have RZ := As.mk rz
  have RP := As.mk rp
  have HL := As.mk (And.intro hzn hpn)
  have m1 := me_msum
  have n1' := na_msum
  clear hs hm rs rm bs bm rz hzn bz rp hpn bp
  go_enter Tryd.func9, Tryd.ntmps9
  have hal : Chg NoB w (w.alloc (.cells #[.int .u8 0, .int .u8 0, .int .u8 0, .int .u8 1] 5)) := (Chg.refl NoB w).alloc _
  go_wp2_with ((with_reducible refine gate (N := 12) rfl ?_); refine wpList_append_ow rfl _ _ 22 rfl 5 .u8 1 Tryd.underlying22 info8 (by decide) _ w.heap.size [0, 0, 0, 1] zb ZA zn zc rfl rfl HL.out.1 (ow_of (own_lit w w.heap.size 5 .u8 [0, 0, 0, 1] (Nat.le_refl _) (by simp [maxLen]))) (RZ.out.keep hal) hal.size (by have := HL.out; simp only [List.length_cons, List.length_nil]; omega) ?_; intro v1 w1 ho1 hc1; have HO1 := As.mk ho1; have C1 : As (Chg NoB w w1) := ⟨hal.trans hc1 (fun b hb e => by have := e.1; omega)⟩; clear ho1 hc1)
  have HB : As (Chg NoB w1 w1) := ⟨Chg.refl _ _⟩
  go_upto_region 2 with fail
  go_cut [8] (fun s8 wx => ∃ A c, s8 = .slice A ks c ∧ As (Rb wx A ((dmix sub n (mask, 0) ([0, 0, 0, 1] ++ zb ++ par)).1.take ks)) ∧ As (Chg NoB w wx))
  case first =>
    go_region_law (first
      | (refine step_append_ow (N := 16) rfl rfl _ _ 22 rfl 5 .u8 1 Tryd.underlying22 info8 (by decide) v1 w.heap.size ([0, 0, 0, 1] ++ zb) par PA pn pc rfl rfl HL.out.2 (ow_keep HO1.out ?q1) ((RP.out.keep C1.out).keep ?q2) ?q3 ?q4 ?_
         case q1 => repeat (first | exact Chg.refl _ _ | (with_reducible apply Chg.drew) | (with_reducible apply Chg.alloc))
         case q2 => repeat (first | exact Chg.refl _ _ | (with_reducible apply Chg.drew) | (with_reducible apply Chg.alloc))
         case q3 => exact Nat.le_trans C1.out.size (Chg.size (S := NoB) (by repeat (first | exact Chg.refl _ _ | (with_reducible apply Chg.drew) | (with_reducible apply Chg.alloc))))
         case q4 => (have := HL.out; simp only [List.length_append, List.length_cons, List.length_nil]; omega)
         intro v16 w16 ho16 hc16
         obtain ⟨A16, c16, hv16, _, hr16⟩ := ow_form ho16
         obtain ⟨L, hL⟩ : ∃ L, L = ([0, 0, 0, 1] ++ zb ++ par).length := ⟨_, rfl⟩
         rw [← hL] at hv16
         subst hv16
         have HLL := As.mk hL
         have HR16 := As.mk hr16
         have C16 : As (Chg NoB w w16) := ⟨Chg.trans (C1.out.trans (by repeat (first | exact Chg.refl _ _ | (with_reducible apply Chg.drew) | (with_reducible apply Chg.alloc))) (fun _ _ e => e)) hc16 (fun b hb e => by have := e.1; omega)⟩
         clear ho16 hc16 hr16 hL)
      | (go_simp
         refine (HSM.out A16 L c16 _ (C16.out.trans ?c1 (fun _ _ e => e)) HLL.out (HR16.out.keep ?c2)).mono ?_
         case c1 => repeat (first | exact Chg.refl _ _ | (with_reducible apply Chg.drew) | (with_reducible apply Chg.alloc))
         case c2 => repeat (first | exact Chg.refl _ _ | (with_reducible apply Chg.drew) | (with_reducible apply Chg.alloc))
         rintro e w6 ⟨v6, rfl, ho6, hc6⟩
         obtain ⟨A6, c6, hv6, hl6, hr6⟩ := ow_form (ow_of ho6)
         rw [HLK.out] at hv6 hl6
         subst hv6
         have hcutK := cut_to (P := Tryd.prog) 22 5 Tryd.underlying22 size8 A6 n c6 (ks : Int) .i64 ks rfl (by omega)
         have HR6 := As.mk hr6
         have C6 : As (Chg NoB w w6) := ⟨(C16.out.trans (by repeat (first | exact Chg.refl _ _ | (with_reducible apply Chg.drew) | (with_reducible apply Chg.alloc))) (fun _ _ e => e)).trans hc6 (fun _ _ e => e)⟩
         clear ho6 hc6 hr6))
    all_goals
      go_wp2_with fail
      go_meet
      exact ⟨A6, c6, rfl, ⟨HR6.out.take_ ks⟩, C6⟩
  case rest =>
    obtain ⟨A, c, rfl, HR, HC⟩ := hcut
    go_wp2_with fail
    go_ret
    exact ⟨⟨A, c, rfl, HR.out⟩, HC.out⟩
end Go.Proofs.YtdofkokeebgigaaDoor
