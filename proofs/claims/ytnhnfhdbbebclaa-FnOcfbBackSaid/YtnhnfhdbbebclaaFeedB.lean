/- The contract of laws.feedable. (Printed by wip/feedable.py.) -/
import Derived.Test.YtnhnfhdbbebclaaFeed
import Derived.Test.YtnhnfhdbbebclaaBlk1
set_option linter.unusedVariables false
set_option linter.unusedSimpArgs false
namespace Go.Proofs.Ytnhnfhdbbebclaa
open Go.RowKit V
def FeedB (perm sub : List Int) (mn rn tn L : Nat) : Prop := RightB perm sub mn ∧ 2 ≤ mn ∧ rn = mn ∧ tn ≤ 60 ∧ L ≤ 4096
instance (perm sub : List Int) (mn rn tn L : Nat) : Decidable (FeedB perm sub mn rn tn L) := inferInstanceAs (Decidable (RightB perm sub mn ∧ 2 ≤ mn ∧ rn = mn ∧ tn ≤ 60 ∧ L ≤ 4096))
set_option maxRecDepth 100000 in
set_option maxHeartbeats 2000000 in
theorem feedable_any {PA : Option Addr} {pn pc : Nat} {SA : Option Addr} {sn sc : Nat} {MA : Option Addr} {mn mc : Nat} {perm sub : List Int} {RA : Option Addr} {rn rc : Nat} {A : Option Addr} {tn tc : Nat} {vs : List Sl} {xss : List (List Int)} {w : World} {L : Nat}
    (hp : pn = perm.length) (hs : sn = sub.length) (rp : Rb w PA perm) (rsu : Rb w SA sub) (bp : Byt perm) (bs : Byt sub) (htn : tn = vs.length) (hrr : Rrs w A vs xss) (hL : xss.flatten.length = L) (hl : tn ≤ 60 → xss.flatten.length ≤ 140737488351232) :
    Calls Try.prog 21 #[blkV PA pn pc SA sn sc MA mn mc, .slice RA rn rc, .slice A tn tc] w fun e w' => e = .returned (.bool (decide (FeedB perm sub mn rn tn L))) ∧ Chg NoB w w' := by
  have HP := As.mk hp
  have HS := As.mk hs
  have RP := As.mk rp
  have RS := As.mk rsu
  have HB := As.mk (And.intro bp bs)
  have HTN := As.mk htn
  have RT := As.mk hrr
  have HL := As.mk hl
  have HLL := As.mk hL
  clear hp hs rp rsu bp bs htn hrr hl hL
  unfold blkV
  obtain ⟨w0, hw0⟩ : ∃ w0, w0 = w.alloc (.cells #[.slice PA pn pc, .slice SA sn sc, .slice MA mn mc] 24) := ⟨_, rfl⟩
  have C0 : As (Chg NoB w w0) := ⟨by rw [hw0]; exact (Chg.refl NoB w).alloc _⟩
  have B0 : As (Blk w0 w.heap.size 24 [.slice PA pn pc, .slice SA sn sc, .slice MA mn mc]) := ⟨by rw [hw0]; exact Blk.new _ _ _⟩
  have x0 := B0.out.cell 0
  have x1 := B0.out.cell 1
  have x2 := B0.out.cell 2
  simp only [List.getElem?_cons_zero, List.getElem?_cons_succ] at x0 x1 x2
  by_cases h1 : RightB perm sub mn
  · have H1 := As.mk (decide_eq_true h1)
    by_cases h2 : 2 ≤ mn
    · have i2 : (2 : Int) ≤ (mn : Int) := by omega
      by_cases h3 : rn = mn
      · subst h3
        have i3 : ((rn : Int) == (rn : Int)) = true := by simp
        by_cases h4 : tn ≤ 60
        · have i4 : (tn : Int) ≤ 60 := by omega
          have HJ := As.mk (HL.out h4)
          by_cases h5 : L ≤ 4096
          · have H5 := As.mk (decide_eq_true h5)
            have HF := As.mk (decide_eq_true (show FeedB perm sub rn rn tn L from ⟨h1, h2, rfl, h4, h5⟩))
            clear h1 h5
            go_enter Try.func21, Try.ntmps21
            go_upto_region 1 with fail
            rw [← hw0]
            clear hw0
            go_wp2_with (first
              | (with_reducible refine (rightBlock_any PA pn pc SA sn sc MA rn mc perm sub w0 HP.out HS.out (RP.out.keep C0.out) (RS.out.keep C0.out) HB.out.1 HB.out.2).mono ?_
                 rintro e1 w1 ⟨he, hc1⟩
                 rw [H1.out] at he
                 subst he
                 have C1 := As.mk (C0.out.trans hc1 (fun _ _ e => e))
                 have B1 := As.mk (B0.out.chg hc1 (fun e => e))
                 clear hc1 x0 x1 x2 B0
                 have x0 := B1.out.cell 0
                 have x1 := B1.out.cell 1
                 have x2 := B1.out.cell 2
                 simp only [List.getElem?_cons_zero, List.getElem?_cons_succ] at x0 x1 x2)
              | (with_reducible refine (joinedTexts_any A tn tc vs xss w1 HTN.out (RT.out.keep C1.out) HJ.out).mono ?_
                 rintro e2 w2 ⟨v2, rfl, ho2, hc2⟩
                 obtain ⟨A2, c2, hv2, _, _, _⟩ := own_form ho2
                 rw [HLL.out] at hv2
                 subst hv2
                 have C2 := As.mk (C1.out.trans hc2 (fun _ _ e => e))
                 clear ho2 hc2)
              | (with_reducible refine (brief_one A2 L c2 _ 1 _ w2 rfl).mono ?_
                 rintro e3 w3 ⟨he, rfl⟩
                 rw [H5.out] at he
                 subst he
                 have C3 := As.mk (C2.out.alloc (.cells #[.slice A2 L c2] 22))
                 clear C2))
            go_ret
            exact ⟨by rw [HF.out]; rfl, C3.out⟩
          · have H5 := As.mk (decide_eq_false h5)
            have HF := As.mk (decide_eq_false (show ¬ FeedB perm sub rn rn tn L from fun h => h5 h.2.2.2.2))
            clear h1 h5
            go_enter Try.func21, Try.ntmps21
            go_upto_region 1 with fail
            rw [← hw0]
            clear hw0
            go_wp2_with (first
              | (with_reducible refine (rightBlock_any PA pn pc SA sn sc MA rn mc perm sub w0 HP.out HS.out (RP.out.keep C0.out) (RS.out.keep C0.out) HB.out.1 HB.out.2).mono ?_
                 rintro e1 w1 ⟨he, hc1⟩
                 rw [H1.out] at he
                 subst he
                 have C1 := As.mk (C0.out.trans hc1 (fun _ _ e => e))
                 have B1 := As.mk (B0.out.chg hc1 (fun e => e))
                 clear hc1 x0 x1 x2 B0
                 have x0 := B1.out.cell 0
                 have x1 := B1.out.cell 1
                 have x2 := B1.out.cell 2
                 simp only [List.getElem?_cons_zero, List.getElem?_cons_succ] at x0 x1 x2)
              | (with_reducible refine (joinedTexts_any A tn tc vs xss w1 HTN.out (RT.out.keep C1.out) HJ.out).mono ?_
                 rintro e2 w2 ⟨v2, rfl, ho2, hc2⟩
                 obtain ⟨A2, c2, hv2, _, _, _⟩ := own_form ho2
                 rw [HLL.out] at hv2
                 subst hv2
                 have C2 := As.mk (C1.out.trans hc2 (fun _ _ e => e))
                 clear ho2 hc2)
              | (with_reducible refine (brief_one A2 L c2 _ 1 _ w2 rfl).mono ?_
                 rintro e3 w3 ⟨he, rfl⟩
                 rw [H5.out] at he
                 subst he
                 have C3 := As.mk (C2.out.alloc (.cells #[.slice A2 L c2] 22))
                 clear C2))
            go_ret
            exact ⟨by rw [HF.out]; rfl, C3.out⟩
        · have i4 : ¬ (tn : Int) ≤ 60 := by omega
          have HF := As.mk (decide_eq_false (show ¬ FeedB perm sub rn rn tn L from fun h => h4 h.2.2.2.1))
          clear h1
          go_enter Try.func21, Try.ntmps21
          go_upto_region 1 with fail
          rw [← hw0]
          clear hw0
          go_wp2_with (first
            | (with_reducible refine (rightBlock_any PA pn pc SA sn sc MA rn mc perm sub w0 HP.out HS.out (RP.out.keep C0.out) (RS.out.keep C0.out) HB.out.1 HB.out.2).mono ?_
               rintro e1 w1 ⟨he, hc1⟩
               rw [H1.out] at he
               subst he
               have C1 := As.mk (C0.out.trans hc1 (fun _ _ e => e))
               have B1 := As.mk (B0.out.chg hc1 (fun e => e))
               clear hc1 x0 x1 x2 B0
               have x0 := B1.out.cell 0
               have x1 := B1.out.cell 1
               have x2 := B1.out.cell 2
               simp only [List.getElem?_cons_zero, List.getElem?_cons_succ] at x0 x1 x2))
          go_ret
          exact ⟨by rw [HF.out]; rfl, C1.out⟩
      · have i3 : ((rn : Int) == (mn : Int)) = false := by simp; omega
        have HF := As.mk (decide_eq_false (show ¬ FeedB perm sub mn rn tn L from fun h => h3 h.2.2.1))
        clear h1
        go_enter Try.func21, Try.ntmps21
        go_upto_region 1 with fail
        rw [← hw0]
        clear hw0
        go_wp2_with (first
          | (with_reducible refine (rightBlock_any PA pn pc SA sn sc MA mn mc perm sub w0 HP.out HS.out (RP.out.keep C0.out) (RS.out.keep C0.out) HB.out.1 HB.out.2).mono ?_
             rintro e1 w1 ⟨he, hc1⟩
             rw [H1.out] at he
             subst he
             have C1 := As.mk (C0.out.trans hc1 (fun _ _ e => e))
             have B1 := As.mk (B0.out.chg hc1 (fun e => e))
             clear hc1 x0 x1 x2 B0
             have x0 := B1.out.cell 0
             have x1 := B1.out.cell 1
             have x2 := B1.out.cell 2
             simp only [List.getElem?_cons_zero, List.getElem?_cons_succ] at x0 x1 x2))
        go_ret
        exact ⟨by rw [HF.out]; rfl, C1.out⟩
    · have i2 : ¬ (2 : Int) ≤ (mn : Int) := by omega
      have HF := As.mk (decide_eq_false (show ¬ FeedB perm sub mn rn tn L from fun h => h2 h.2.1))
      clear h1
      go_enter Try.func21, Try.ntmps21
      go_upto_region 1 with fail
      rw [← hw0]
      clear hw0
      go_wp2_with (first
        | (with_reducible refine (rightBlock_any PA pn pc SA sn sc MA mn mc perm sub w0 HP.out HS.out (RP.out.keep C0.out) (RS.out.keep C0.out) HB.out.1 HB.out.2).mono ?_
           rintro e1 w1 ⟨he, hc1⟩
           rw [H1.out] at he
           subst he
           have C1 := As.mk (C0.out.trans hc1 (fun _ _ e => e))
           have B1 := As.mk (B0.out.chg hc1 (fun e => e))
           clear hc1 x0 x1 x2 B0
           have x0 := B1.out.cell 0
           have x1 := B1.out.cell 1
           have x2 := B1.out.cell 2
           simp only [List.getElem?_cons_zero, List.getElem?_cons_succ] at x0 x1 x2))
      go_ret
      exact ⟨by rw [HF.out]; rfl, C1.out⟩
  · have H1 := As.mk (decide_eq_false h1)
    have HF := As.mk (decide_eq_false (show ¬ FeedB perm sub mn rn tn L from fun h => h1 h.1))
    clear h1
    go_enter Try.func21, Try.ntmps21
    go_upto_region 1 with fail
    rw [← hw0]
    clear hw0
    go_wp2_with (first
      | (with_reducible refine (rightBlock_any PA pn pc SA sn sc MA mn mc perm sub w0 HP.out HS.out (RP.out.keep C0.out) (RS.out.keep C0.out) HB.out.1 HB.out.2).mono ?_
         rintro e1 w1 ⟨he, hc1⟩
         rw [H1.out] at he
         subst he
         have C1 := As.mk (C0.out.trans hc1 (fun _ _ e => e))
         have B1 := As.mk (B0.out.chg hc1 (fun e => e))
         clear hc1 x0 x1 x2 B0
         have x0 := B1.out.cell 0
         have x1 := B1.out.cell 1
         have x2 := B1.out.cell 2
         simp only [List.getElem?_cons_zero, List.getElem?_cons_succ] at x0 x1 x2))
    go_ret
    exact ⟨by rw [HF.out]; rfl, C1.out⟩
end Go.Proofs.Ytnhnfhdbbebclaa
