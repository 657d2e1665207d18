/- The good way of FnS2kSalted. -/
import Derived.Test.YtmokepbmodmgeaaOnce
import Derived.Test.YtmokepbmodmgeaaSimple
import Derived.Test.YtmokepbmodmgeaaSpecSalt
set_option linter.unusedVariables false
set_option linter.unusedSimpArgs false
namespace Go.Proofs.Ytmokepbmodmgeaa
open Go.RowKit V
set_option maxRecDepth 100000 in
set_option maxHeartbeats 2000000 in
theorem salt_good (SA : Option Addr) (sc : Nat) (MA : Option Addr) (n mc : Nat) (sub mask pass salt : List Int) (size : Nat) (PA : Option Addr) (pn pc : Nat) (TA : Option Addr) (tn tc : Nat) (w : World)
    (hs : sub.length = 256) (hm : mask.length = n) (n1 : 1 ≤ n) (n2 : n ≤ 64) (rs : Rb w SA sub) (rm : Rb w MA mask) (bs : Byt sub) (bm : Byt mask)
    (rp : Rb w PA pass) (rt : Rb w TA salt) (hpn : pn = pass.length) (htn : tn = salt.length) (bp : Byt pass) (bt : Byt salt) (hsz : size ≤ 600) (hp4 : pn ≤ 4096) (ht4 : tn ≤ 4096) :
    Calls Try.prog 4 #[.agg #[.slice SA 256 sc, .slice MA n mc], .int .i64 size, .slice PA pn pc, .slice TA tn tc] w (Yes w) := by
  have HA := As.mk (fun w' (hc : Chg NoB w w') => implSalted_any SA sc MA n mc sub mask pass salt size PA pn pc TA tn tc w' hs hm n1 n2 (rs.keep hc) (rm.keep hc) bs bm (rp.keep hc) (rt.keep hc) hpn htn bp bt (by omega))
  have HSI := As.mk (fun A c w' (hc : Chg NoB w w') (ht : Rb w' A (salt ++ pass)) => implSimple_any SA sc MA n mc sub mask (salt ++ pass) size A (tn + pn) c w' hs hm n1 n2 (rs.keep hc) (rm.keep hc) bs bm ht (by rw [List.length_append]; omega) (bt.append bp) (by omega))
  have HSP := As.mk (fun w' (hc : Chg NoB w w') => specSalted_any SA sc MA n mc sub mask size PA pn pc TA tn tc pass salt w' hs hm n1 n2 (rs.keep hc) (rm.keep hc) bs bm (rp.keep hc) (rt.keep hc) hpn htn (by omega) (by omega) bp bt (by omega))
  have HXL : As ((stretch sub n mask (salt ++ pass) size).length = size) := ⟨by
    unfold stretch
    rw [List.length_take, strm_length bs bm hm n1]
    exact Nat.min_eq_left (Nat.le_mul_of_pos_right _ n1)⟩
  generalize stretch sub n mask (salt ++ pass) size = out at *
  have RP := As.mk rp
  have RT := As.mk rt
  have HL := As.mk (And.intro htn (And.intro hpn (And.intro ht4 hp4)))
  have hsz2 : ¬ ((600 : Int) < (size : Int)) := by omega
  have hpi : (pn : Int) ≤ 4096 := by omega
  have hti : (tn : Int) ≤ 4096 := by omega
  have B0 := As.mk (Blk.new w 24 [.slice SA 256 sc, .slice MA n mc])
  have C0 := As.mk ((Chg.refl NoB w).alloc (.cells #[.slice SA 256 sc, .slice MA n mc] 24))
  clear hs hm rs rm bs bm rp rt hpn htn bp bt
  go_enter Try.func4, Try.ntmps4
  go_wp2_with fail
  refine (fits_any SA 256 sc MA n mc _).mono ?_
  rintro e w1 ⟨he, hc1⟩
  obtain rfl : e = .returned (.bool true) := by rw [he]; simp; omega
  clear he
  have C1 := As.mk (C0.out.trans hc1 (fun _ _ e => e))
  have b1 := B0.out.chg hc1 (fun e => e)
  have x0 := b1.cell 0
  have x1 := b1.cell 1
  simp only [List.getElem?_cons_zero, List.getElem?_cons_succ] at x0 x1
  have B1 := As.mk b1
  clear hc1 b1
  go_wp2_with fail
  refine (rightHash_any SA 256 sc MA n mc _).mono ?_
  rintro e w2 ⟨he, hc2⟩
  obtain rfl : e = .returned (.bool true) := by rw [he]; simp; omega
  clear he
  have C2 := As.mk (C1.out.trans hc2 (fun _ _ e => e))
  have B2 := As.mk (B1.out.chg hc2 (fun e => e))
  clear hc2 x0 x1
  go_wp2_with fail
  refine (brief_two PA pn pc TA tn tc 22 w2).mono ?_
  rintro e w3' ⟨he, hw3⟩
  obtain rfl : e = .returned (.bool true) := by rw [he]; simp; omega
  clear he
  subst hw3
  obtain ⟨w3, hw3⟩ : ∃ w3, w3 = w2.alloc (.cells #[.slice PA pn pc, .slice TA tn tc] 22) := ⟨_, rfl⟩
  have C3 : As (Chg NoB w w3) := ⟨by rw [hw3]; exact C2.out.alloc _⟩
  have b3 : Blk w3 w.heap.size 24 [.slice SA 256 sc, .slice MA n mc] := by rw [hw3]; exact B2.out.alloc _
  rw [← hw3]
  have x0 := b3.cell 0
  have x1 := b3.cell 1
  simp only [List.getElem?_cons_zero, List.getElem?_cons_succ] at x0 x1
  have B3 := As.mk b3
  clear hw3 b3
  go_wp2_with fail
  refine (HA.out _ C3.out).mono ?_
  rintro e w4 ⟨hc4, g4, c4, rfl, hr4⟩
  have C4 := As.mk (C3.out.trans hc4 (fun _ _ e => e))
  have b4 := B3.out.chg hc4 (fun e => e)
  have R4 := As.mk hr4
  have KQ : As (∀ w', Chg NoB w4 w' → w'.cell? ⟨w.heap.size, 0, none⟩ = some (.slice SA 256 sc) ∧ w'.cell? ⟨w.heap.size, 1, none⟩ = some (.slice MA n mc)) := ⟨fun w' h => by
    have b := b4.chg h (fun e => e)
    exact ⟨b.cell 0, b.cell 1⟩⟩
  clear x0 x1 hc4 hr4 b4
  have hq := KQ.out _ (Chg.refl _ _)
  have x0 := hq.1
  have x1 := hq.2
  clear hq
  have HB : As (Chg NoB w4 w4) := ⟨Chg.refl _ _⟩
  go_upto_region 6 with fail
  go_cut [11, 12] (fun s11 s12 wx => ∃ (g : Nat) (c : Nat), s11 = .slice (some ⟨g, 0, none⟩) size c ∧ s12 = .bool true ∧ As (Chg NoB w4 wx) ∧ As (Rb wx (some ⟨g, 0, none⟩) out))
  case first =>
    go_region_held3 (fun w' => w'.cell? ⟨w.heap.size, 0, none⟩ = some (.slice SA 256 sc) ∧ w'.cell? ⟨w.heap.size, 1, none⟩ = some (.slice MA n mc)) (exact KQ.out _ (by repeat (first | (with_reducible exact HB.out) | (with_reducible apply Chg.drew) | (with_reducible apply Chg.alloc)))) (first
      | (refine step_append_e (N := 57) rfl rfl _ _ 22 rfl 5 .u8 1 Try.underlying22 info8 (by decide) _ w4.heap.size salt TA tn tc rfl rfl HL.out.1 ((RT.out.keep C4.out).keep ?r1) ?r2 ?r3 ?_
         case r1 => exact (by repeat (first | (with_reducible exact HB.out) | (with_reducible apply Chg.drew) | (with_reducible apply Chg.alloc)))
         case r2 => exact Chg.size (S := NoB) (by repeat (first | (with_reducible exact HB.out) | (with_reducible apply Chg.drew) | (with_reducible apply Chg.alloc)))
         case r3 => (have := HL.out; omega)
         intro v57 w57 ho57 hc57
         have HO57 := As.mk ho57
         have HB57 : As (Chg NoB w4 w57) := ⟨Chg.trans (by repeat (first | (with_reducible exact HB.out) | (with_reducible apply Chg.drew) | (with_reducible apply Chg.alloc))) hc57 (fun _ _ e => e)⟩
         clear HB ho57 hc57
         have HB := HB57
         clear HB57)
      | (refine step_append_ow (N := 59) rfl rfl _ _ 22 rfl 5 .u8 1 Try.underlying22 info8 (by decide) v57 w4.heap.size salt pass PA pn pc rfl rfl HL.out.2.1 (ow_keep HO57.out ?q1) ((RP.out.keep C4.out).keep ?q2) ?q3 ?q4 ?_
         case q1 => exact (by repeat (first | exact Chg.refl _ _ | (with_reducible apply Chg.drew) | (with_reducible apply Chg.alloc)))
         case q2 => exact (by repeat (first | (with_reducible exact HB.out) | (with_reducible apply Chg.drew) | (with_reducible apply Chg.alloc)))
         case q3 => exact Chg.size (S := NoB) (by repeat (first | (with_reducible exact HB.out) | (with_reducible apply Chg.drew) | (with_reducible apply Chg.alloc)))
         case q4 => (have := HL.out; omega)
         intro v59 w59 ho59 hc59
         obtain ⟨A59, c59, hv59, _, hr59⟩ := ow_form ho59
         rw [show (salt ++ pass).length = tn + pn from by rw [List.length_append, HL.out.1, HL.out.2.1]] at hv59
         subst hv59
         have HR59 := As.mk hr59
         have HB59 : As (Chg NoB w4 w59) := ⟨by
           exact Chg.trans (by repeat (first | (with_reducible exact HB.out) | (with_reducible apply Chg.drew) | (with_reducible apply Chg.alloc))) hc59 (fun b hb e => by have := e.1; omega)⟩
         clear HB ho59 hc59 hr59
         have HB := HB59
         clear HB59)
      | (go_simp
         refine (HSI.out A59 c59 _ (C4.out.trans ?c1 (fun _ _ e => e)) (HR59.out.keep ?c2)).mono ?_
         case c1 => exact (by repeat (first | (with_reducible exact HB.out) | (with_reducible apply Chg.drew) | (with_reducible apply Chg.alloc)))
         case c2 => exact (by repeat (first | exact Chg.refl _ _ | (with_reducible apply Chg.drew) | (with_reducible apply Chg.alloc)))
         rintro e w60 ⟨hc60, g60, c60, rfl, hr60⟩
         have HR60 := As.mk hr60
         have HB60 : As (Chg NoB w4 w60) := ⟨Chg.trans (by repeat (first | (with_reducible exact HB.out) | (with_reducible apply Chg.drew) | (with_reducible apply Chg.alloc))) hc60 (fun _ _ e => e)⟩
         clear HB hc60 hr60
         have HB := HB60
         clear HB60))
    all_goals
      go_wp2_with fail
      go_meet
      exact ⟨g60, c60, rfl, rfl, HB, HR60⟩
  case rest =>
    obtain ⟨g5, c5, rfl, rfl, HB5, R5⟩ := hcut
    clear x0 x1
    have hq := KQ.out _ HB5.out
    have x0 := hq.1
    have x1 := hq.2
    clear hq
    have C5 := As.mk (C4.out.trans HB5.out (fun _ _ e => e))
    have R45 := As.mk (R4.out.keep HB5.out)
    go_wp2_with fail
    refine (mixer_any SA 256 sc MA n mc _).mono ?_
    rintro e w6 ⟨rfl, hc6⟩
    have C6 := As.mk (C5.out.trans hc6 (fun _ _ e => e))
    have R46 := As.mk (R45.out.keep hc6)
    have R56 := As.mk (R5.out.keep hc6)
    clear hc6
    go_wp2_with fail
    refine (HSP.out _ C6.out).mono ?_
    rintro e w7 ⟨v7, rfl, ho7, hc7⟩
    obtain ⟨A7, c7, hv7, _, hr7⟩ := ow_form (ow_of ho7)
    rw [HXL.out] at hv7
    subst hv7
    have C7 := As.mk (C6.out.trans hc7 (fun _ _ e => e))
    have R47 := As.mk (R46.out.keep hc7)
    have R57 := As.mk (R56.out.keep hc7)
    have R77 := As.mk hr7
    clear hc7 ho7 hr7
    go_wp2_with fail
    refine (same_yes (some ⟨g4, 0, none⟩) size c4 out A7 size c7 _ HXL.out.symm HXL.out.symm R47.out R77.out).mono ?_
    rintro e w8 ⟨rfl, nn, rfl⟩
    go_wp2_with fail
    refine (same_yes (some ⟨g4, 0, none⟩) size c4 out (some ⟨g5, 0, none⟩) size c5 _ HXL.out.symm HXL.out.symm (R47.out.keep ((Chg.refl NoB w7).drewN nn)) (R57.out.keep ((Chg.refl NoB w7).drewN nn))).mono ?_
    rintro e w9 ⟨rfl, mm, rfl⟩
    go_wp2_with fail
    go_ret
    exact yes_of (C7.out.drewN (nn + mm))
end Go.Proofs.Ytmokepbmodmgeaa
