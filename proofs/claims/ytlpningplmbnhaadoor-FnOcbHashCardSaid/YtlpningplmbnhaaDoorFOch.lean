/- The walk of FnOcbHash. -/
import Derived.Test.YtlpningplmbnhaaDoorOcQ
import Derived.Test.YtlpningplmbnhaaDoorOcZ
import Derived.Test.YtlpningplmbnhaaDoorBrief
set_option linter.unusedVariables false
set_option linter.unusedSimpArgs false
namespace Go.Proofs.YtlpningplmbnhaaDoor
open Go.RowKit V
/-- It answers true, and nothing that was has turned. -/
def Yes (w : World) (e : Ending) (w' : World) : Prop := e = .returned (.bool true) ∧ Below w.heap.size w w'
set_option maxRecDepth 100000 in
set_option maxHeartbeats 2000000 in
theorem fnOcbHash_main (PA : Option Addr) (pn pc : Nat) (SA : Option Addr) (sn sc : Nat) (MA : Option Addr) (mn mc : Nat) (perm sub mask : List Int) (TA : Option Addr) (tn tc : Nat) (text : List Int) (w : World)
    (hp : pn = perm.length) (hs : sn = sub.length) (hm : mn = mask.length) (rp : Rb w PA perm) (rs : Rb w SA sub) (rm : Rb w MA mask) (bp : Byt perm) (bs : Byt sub) (bm : Byt mask)
    (ht : Tab w) (rt : Rb w TA text) (htn : tn = text.length) (htc : tn ≤ tc) (bt : Byt text) :
    Calls Tryd.prog 3 #[blkV PA pn pc SA sn sc MA mn mc, .slice TA tn tc] w (Yes w) := by
  have HP := As.mk hp
  have HS := As.mk hs
  have HM := As.mk hm
  have HT := As.mk ht
  have HTC := As.mk htc
  have HN := As.mk htn
  have RP := As.mk rp
  have RS := As.mk rs
  have RM := As.mk rm
  have RT := As.mk rt
  have HB := As.mk (And.intro bp (And.intro bs (And.intro bm bt)))
  clear hp hs hm ht htn htc rp rs rm rt bp bs bm bt
  unfold blkV
  obtain ⟨w0, hw0⟩ : ∃ w0, w0 = w.alloc (.cells #[.slice PA pn pc, .slice SA sn sc, .slice MA mn mc] 24) := ⟨_, rfl⟩
  have C0 : As (Chg NoB w w0) := ⟨by rw [hw0]; exact (Chg.refl NoB w).alloc _⟩
  have B0 : As (Blk w0 w.heap.size 24 [.slice PA pn pc, .slice SA sn sc, .slice MA mn mc]) := ⟨by rw [hw0]; exact Blk.new _ _ _⟩
  have X0 := B0.out.cell 0
  have X1 := B0.out.cell 1
  have X2 := B0.out.cell 2
  simp only [List.getElem?_cons_zero, List.getElem?_cons_succ] at X0 X1 X2
  by_cases hf : Fits27 pn sn mn
  · have HF := As.mk (decide_eq_true hf)
    by_cases hx : tn ≤ 2147483647
    · have hx1 : ¬ ((tn : Int) > 2147483647) := by omega
      by_cases hwd : mn = 16 ∧ RightB perm sub 16
      · have HW := As.mk (decide_eq_true hwd)
        have HWD := As.mk hwd
        by_cases hbr : tn ≤ 4096
        · have HBR := As.mk (decide_eq_true hbr)
          have hbr2 := hbr
          clear hf hwd hbr
          go_enter Tryd.func3, Tryd.ntmps3
          go_upto_region 1 with fail
          rw [← hw0]
          clear hw0
          go_wp2_with fail
          refine (fits27_any PA pn pc SA sn sc MA mn mc w0).mono ?_
          rintro e1 w1 ⟨he, hc1⟩
          rw [HF.out] at he
          subst he
          have C1 := As.mk (C0.out.trans hc1 (fun _ _ e => e))
          have B1 := As.mk (B0.out.chg hc1 (fun e => e))
          clear hc1 X0 X1 X2 B0
          have X0 := B1.out.cell 0
          have X1 := B1.out.cell 1
          have X2 := B1.out.cell 2
          simp only [List.getElem?_cons_zero, List.getElem?_cons_succ] at X0 X1 X2
          go_wp2_with fail
          refine (wide_any PA pn pc SA sn sc MA mn mc perm sub w1 HP.out HS.out (RP.out.keep C1.out) (RS.out.keep C1.out) HB.out.1 HB.out.2.1).mono ?_
          rintro e2 w2 ⟨he, hc2⟩
          rw [HW.out] at he
          subst he
          have C2 := As.mk (C1.out.trans hc2 (fun _ _ e => e))
          have B2 := As.mk (B1.out.chg hc2 (fun e => e))
          clear hc2 X0 X1 X2 B1
          go_wp2_with fail
          refine (brief_one TA tn tc _ 1 _ w2 rfl).mono ?_
          rintro e3 w3 ⟨he, rfl⟩
          rw [HBR.out] at he
          subst he
          have C3 : As (Chg NoB w (w2.alloc (.cells #[.slice TA tn tc] 22))) := ⟨C2.out.alloc _⟩
          have B3 := As.mk (B2.out.alloc (.cells #[.slice TA tn tc] 22))
          generalize w2.alloc (.cells #[.slice TA tn tc] 22) = w3 at *
          have X0 := B3.out.cell 0
          have X1 := B3.out.cell 1
          have X2 := B3.out.cell 2
          simp only [List.getElem?_cons_zero, List.getElem?_cons_succ] at X0 X1 X2
          go_wp2_with fail
          refine (ocbHash_any PA pn pc SA sn sc MA mn mc perm sub mask TA tn tc text w3 HP.out HS.out HM.out HWD.out.1 (RP.out.keep C3.out) (RS.out.keep C3.out) (RM.out.keep C3.out) HB.out.2.1 HB.out.2.2.1 HWD.out.2 (HT.out.keep C3.out) (RT.out.keep C3.out) HN.out HB.out.2.2.2 hbr2).mono ?_
          rintro e4 w4 ⟨v4, rfl, ho4, hc4⟩
          have hml : mask.length = 16 := by rw [← HM.out]; exact HWD.out.1
          obtain ⟨g4, c4, hv4, _, _, _⟩ := own_form_pos ho4 (by rw [hashL_length]; omega)
          rw [hashL_length] at hv4
          subst hv4
          have R4 := As.mk (own_reads ho4)
          have C4 := As.mk (C3.out.trans hc4 (fun _ _ e => e))
          have B4 := As.mk (B3.out.chg hc4 (fun e => e))
          have HML := As.mk hml
          clear ho4 hc4 X0 X1 X2 B3 hml
          have X0 := B4.out.cell 0
          have X1 := B4.out.cell 1
          have X2 := B4.out.cell 2
          simp only [List.getElem?_cons_zero, List.getElem?_cons_succ] at X0 X1 X2
          go_wp2_with fail
          refine (data_any PA pn pc SA sn sc MA mn mc w4).mono ?_
          rintro e5 w5 ⟨rfl, hc5⟩
          have C5 := As.mk (C4.out.trans hc5 (fun _ _ e => e))
          have R5 := As.mk (R4.out.keep hc5)
          clear hc5 X0 X1 X2
          have hpn : pn = 16 := by rw [HP.out]; exact HWD.out.2.2.2.1.1
          have hsn : sn = 256 := by rw [HS.out]; exact HWD.out.2.2.2.2.1
          have hmn : mn = 16 := HWD.out.1
          subst hpn
          subst hsn
          subst hmn
          unfold blkV
          go_wp2_with fail
          refine (specHash_any PA pc SA sc MA mc perm sub mask TA tn tc text w5 ⟨RP.out.keep C5.out, RS.out.keep C5.out, RM.out.keep C5.out⟩ ⟨HWD.out.2, HML.out, HB.out.2.1, HB.out.2.2.1⟩ (RT.out.keep C5.out) HN.out HTC.out HB.out.2.2.2 hbr2).mono ?_
          rintro e6 w6 ⟨v6, rfl, ho6, hc6⟩
          obtain ⟨g6, c6, hv6, _, _, _⟩ := own_form_pos ho6 (by rw [hashL_length]; omega)
          rw [hashL_length] at hv6
          subst hv6
          have R6 := As.mk (own_reads ho6)
          have C6 := As.mk (C5.out.trans hc6 (fun _ _ e => e))
          have R5b := As.mk (R5.out.keep hc6)
          have HLL : As (16 = (hashL perm sub mask text).length) := ⟨(hashL_length _ _ _ _).symm⟩
          clear ho6 hc6
          go_wp2_with fail
          refine (same_yes (some ⟨g4, 0, none⟩) 16 c4 _ (some ⟨g6, 0, none⟩) 16 c6 w6 HLL.out HLL.out R5b.out R6.out).mono ?_
          rintro e7 w7 ⟨rfl, m, rfl⟩
          have C7 := As.mk (C6.out.drewN m)
          go_wp2_with fail
          go_ret
          exact ⟨rfl, C7.out.below (Nat.le_refl _) (fun _ _ e => e)⟩
        · have HBR := As.mk (decide_eq_false hbr)
          clear hf hwd hbr
          go_enter Tryd.func3, Tryd.ntmps3
          go_upto_region 1 with fail
          rw [← hw0]
          clear hw0
          go_wp2_with fail
          refine (fits27_any PA pn pc SA sn sc MA mn mc w0).mono ?_
          rintro e1 w1 ⟨he, hc1⟩
          rw [HF.out] at he
          subst he
          have C1 := As.mk (C0.out.trans hc1 (fun _ _ e => e))
          have B1 := As.mk (B0.out.chg hc1 (fun e => e))
          clear hc1 X0 X1 X2 B0
          have X0 := B1.out.cell 0
          have X1 := B1.out.cell 1
          have X2 := B1.out.cell 2
          simp only [List.getElem?_cons_zero, List.getElem?_cons_succ] at X0 X1 X2
          go_wp2_with fail
          refine (wide_any PA pn pc SA sn sc MA mn mc perm sub w1 HP.out HS.out (RP.out.keep C1.out) (RS.out.keep C1.out) HB.out.1 HB.out.2.1).mono ?_
          rintro e2 w2 ⟨he, hc2⟩
          rw [HW.out] at he
          subst he
          have C2 := As.mk (C1.out.trans hc2 (fun _ _ e => e))
          clear hc2 X0 X1 X2 B1
          go_wp2_with fail
          refine (brief_one TA tn tc _ 1 _ w2 rfl).mono ?_
          rintro e3 w3 ⟨he, rfl⟩
          rw [HBR.out] at he
          subst he
          go_wp2_with fail
          go_ret
          exact ⟨rfl, (C2.out.alloc _).below (Nat.le_refl _) (fun _ _ e => e)⟩
      · have HW := As.mk (decide_eq_false hwd)
        clear hf hwd
        go_enter Tryd.func3, Tryd.ntmps3
        go_upto_region 1 with fail
        rw [← hw0]
        clear hw0
        go_wp2_with fail
        refine (fits27_any PA pn pc SA sn sc MA mn mc w0).mono ?_
        rintro e1 w1 ⟨he, hc1⟩
        rw [HF.out] at he
        subst he
        have C1 := As.mk (C0.out.trans hc1 (fun _ _ e => e))
        have B1 := As.mk (B0.out.chg hc1 (fun e => e))
        clear hc1 X0 X1 X2 B0
        have X0 := B1.out.cell 0
        have X1 := B1.out.cell 1
        have X2 := B1.out.cell 2
        simp only [List.getElem?_cons_zero, List.getElem?_cons_succ] at X0 X1 X2
        go_wp2_with fail
        refine (wide_any PA pn pc SA sn sc MA mn mc perm sub w1 HP.out HS.out (RP.out.keep C1.out) (RS.out.keep C1.out) HB.out.1 HB.out.2.1).mono ?_
        rintro e2 w2 ⟨he, hc2⟩
        rw [HW.out] at he
        subst he
        have C2 := As.mk (C1.out.trans hc2 (fun _ _ e => e))
        clear hc2 X0 X1 X2 B1
        go_wp2_with fail
        go_ret
        exact ⟨rfl, C2.out.below (Nat.le_refl _) (fun _ _ e => e)⟩
    · have hx1 : ((tn : Int) > 2147483647) := by omega
      clear hf
      go_enter Tryd.func3, Tryd.ntmps3
      go_upto_region 1 with fail
      rw [← hw0]
      clear hw0
      go_wp2_with fail
      refine (fits27_any PA pn pc SA sn sc MA mn mc w0).mono ?_
      rintro e1 w1 ⟨he, hc1⟩
      rw [HF.out] at he
      subst he
      have C1 := As.mk (C0.out.trans hc1 (fun _ _ e => e))
      clear hc1 X0 X1 X2 B0
      go_wp2_with fail
      go_ret
      exact ⟨rfl, C1.out.below (Nat.le_refl _) (fun _ _ e => e)⟩
  · have HF := As.mk (decide_eq_false hf)
    clear hf
    go_enter Tryd.func3, Tryd.ntmps3
    go_upto_region 1 with fail
    rw [← hw0]
    clear hw0
    go_wp2_with fail
    refine (fits27_any PA pn pc SA sn sc MA mn mc w0).mono ?_
    rintro e1 w1 ⟨he, hc1⟩
    rw [HF.out] at he
    subst he
    have C1 := As.mk (C0.out.trans hc1 (fun _ _ e => e))
    clear hc1 X0 X1 X2 B0
    go_wp2_with fail
    go_ret
    exact ⟨rfl, C1.out.below (Nat.le_refl _) (fun _ _ e => e)⟩
theorem fnOcbHash_walk (PA : Option Addr) (pc : Nat) (perm : List Int) (SA : Option Addr) (sc : Nat) (sub : List Int) (MA : Option Addr) (mc : Nat) (mask : List Int) (TA : Option Addr) (tc : Nat) (text : List Int) (W : World) (a0 a1 : Addr) (hS : Tab W)
    (rp : Rk .u8 W PA perm) (bp : Byt perm) (rs : Rk .u8 W SA sub) (bs : Byt sub) (rm : Rk .u8 W MA mask) (bm : Byt mask) (rt : Rk .u8 W TA text) (htc : text.length ≤ tc) (bt : Byt text) (lt : text.length ≤ 140737488351232) :
    Calls Tryd.prog 3 #[.agg #[.slice PA perm.length pc, .slice SA sub.length sc, .slice MA mask.length mc], .slice TA text.length tc] W fun e w' => e = .returned (.bool true) ∧ Below W.heap.size W w' :=
  fnOcbHash_main PA _ pc SA _ sc MA _ mc perm sub mask TA _ tc text W rfl rfl rfl rp rs rm bp bs bm hS rt rfl htc bt
end Go.Proofs.YtlpningplmbnhaaDoor
