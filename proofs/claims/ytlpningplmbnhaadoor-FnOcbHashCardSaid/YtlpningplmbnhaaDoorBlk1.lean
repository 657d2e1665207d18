/- The contracts of spec.RightBlock, (impl.Block).Right, laws.zzFits27, laws.wide. -/
import Derived.Test.YtlpningplmbnhaaDoorPermC
set_option linter.unusedVariables false
set_option linter.unusedSimpArgs false
namespace Go.Proofs.YtlpningplmbnhaaDoor
open Go.RowKit V
/-- A right block cipher of n bytes. -/
def RightB (perm sub : List Int) (n : Nat) : Prop := 1 ≤ n ∧ n ≤ 32 ∧ Perms perm n ∧ Perms sub 256
instance (perm sub : List Int) (n : Nat) : Decidable (RightB perm sub n) := by unfold RightB; infer_instance
abbrev blkV (PA : Option Addr) (pn pc : Nat) (SA : Option Addr) (sn sc : Nat) (MA : Option Addr) (mn mc : Nat) : Value := .agg #[.slice PA pn pc, .slice SA sn sc, .slice MA mn mc]
theorem permutes_256 (A : Option Addr) (n c : Nat) (xs : List Int) (w : World) (hn : n = xs.length) (rx : Rb w A xs) (bx : Byt xs) :
    Calls Tryd.prog 21 #[.slice A n c, .int .i64 256] w fun e w' => e = .returned (.bool (decide (Perms xs 256))) ∧ w' = w := permutes_any A n c 256 xs w hn rx bx (by omega)
set_option maxRecDepth 100000 in
set_option maxHeartbeats 1000000 in
theorem rightBlock_any (PA : Option Addr) (pn pc : Nat) (SA : Option Addr) (sn sc : Nat) (MA : Option Addr) (mn mc : Nat) (perm sub : List Int) (w : World) (hp : pn = perm.length) (hs : sn = sub.length) (rp : Rb w PA perm) (rs : Rb w SA sub) (bp : Byt perm) (bs : Byt sub) :
    Calls Tryd.prog 11 #[blkV PA pn pc SA sn sc MA mn mc] w fun e w' => e = .returned (.bool (decide (RightB perm sub mn))) ∧ Chg NoB w w' := by
  have RP := As.mk rp
  have RS := As.mk rs
  have HP := As.mk hp
  have HS := As.mk hs
  have BP := As.mk bp
  have BS := As.mk bs
  clear rp rs hp hs bp bs
  unfold blkV
  by_cases h1 : 1 ≤ mn
  · by_cases h2 : mn ≤ 32
    · have i1 : (1 : Int) ≤ (mn : Int) := by omega
      have i2 : (mn : Int) ≤ 32 := by omega
      by_cases h3 : Perms perm mn
      · have H3 := As.mk (decide_eq_true h3)
        have H4 : As (decide (RightB perm sub mn) = decide (Perms sub 256)) := ⟨by simp [RightB, h1, h2, h3]⟩
        clear h3
        go_enter Tryd.func11, Tryd.ntmps11
        go_wp2_with (first
          | (with_reducible refine (permutes_any PA pn pc mn perm _ HP.out (RP.out.alloc _) BP.out (by omega)).mono ?_
             rintro e w1 ⟨he, rfl⟩
             rw [H3.out] at he
             subst he)
          | (with_reducible refine (permutes_256 SA sn sc sub _ HS.out (RS.out.alloc _) BS.out).mono ?_
             rintro e w1 ⟨rfl, rfl⟩))
        go_ret
        exact ⟨by rw [H4.out]; first | rfl | simp, (Chg.refl NoB w).alloc _⟩
      · have H3 := As.mk (decide_eq_false h3)
        have H4 : As (decide (RightB perm sub mn) = false) := ⟨decide_eq_false fun h => h3 h.2.2.1⟩
        clear h3
        go_enter Tryd.func11, Tryd.ntmps11
        go_wp2_with (first
          | (with_reducible refine (permutes_any PA pn pc mn perm _ HP.out (RP.out.alloc _) BP.out (by omega)).mono ?_
             rintro e w1 ⟨he, rfl⟩
             rw [H3.out] at he
             subst he))
        go_ret
        exact ⟨by rw [H4.out]; rfl, (Chg.refl NoB w).alloc _⟩
    · have i1 : (1 : Int) ≤ (mn : Int) := by omega
      have i2 : ¬ (mn : Int) ≤ 32 := by omega
      have H4 : As (decide (RightB perm sub mn) = false) := ⟨decide_eq_false fun h => h2 h.2.1⟩
      go_enter Tryd.func11, Tryd.ntmps11
      go_wp2
      go_ret
      exact ⟨by rw [H4.out]; rfl, (Chg.refl NoB w).alloc _⟩
  · have i1 : ¬ (1 : Int) ≤ (mn : Int) := by omega
    have H4 : As (decide (RightB perm sub mn) = false) := ⟨decide_eq_false fun h => h1 h.1⟩
    go_enter Tryd.func11, Tryd.ntmps11
    go_wp2
    go_ret
    exact ⟨by rw [H4.out]; rfl, (Chg.refl NoB w).alloc _⟩
set_option maxRecDepth 100000 in
set_option maxHeartbeats 1000000 in
theorem blockRight_yes (PA : Option Addr) (pn pc : Nat) (SA : Option Addr) (sn sc : Nat) (MA : Option Addr) (mn mc : Nat) (perm sub : List Int) (w : World) (hp : pn = perm.length) (hs : sn = sub.length) (rp : Rb w PA perm) (rs : Rb w SA sub) (hr : RightB perm sub mn) :
    Calls Tryd.prog 12 #[blkV PA pn pc SA sn sc MA mn mc] w fun e w' => e = .returned (.bool true) ∧ Chg NoB w w' := by
  obtain ⟨h1, h2, h3, h4⟩ := hr
  have e1 : pn = mn := by rw [hp]; exact h3.1
  have e2 : sn = 256 := by rw [hs]; exact h4.1
  subst e1
  subst e2
  have RP := As.mk rp
  have RS := As.mk rs
  have P3 := As.mk h3
  have P4 := As.mk h4
  have i1 : (1 : Int) ≤ (pn : Int) := by omega
  have i2 : (pn : Int) ≤ 32 := by omega
  clear hp hs rp rs h3 h4
  unfold blkV
  obtain ⟨w0, hw0⟩ : ∃ w0, w0 = w.alloc (.cells #[.slice PA pn pc, .slice SA 256 sc, .slice MA pn mc] 24) := ⟨_, rfl⟩
  have C0 : As (Chg NoB w w0) := ⟨by rw [hw0]; exact (Chg.refl NoB w).alloc _⟩
  have B0 : As (Blk w0 w.heap.size 24 [.slice PA pn pc, .slice SA 256 sc, .slice MA pn mc]) := ⟨by rw [hw0]; exact Blk.new _ _ _⟩
  go_enter Tryd.func12, Tryd.ntmps12
  go_upto_region 1 with fail
  rw [← hw0]
  have x0 := B0.out.cell 0
  have x1 := B0.out.cell 1
  have x2 := B0.out.cell 2
  simp only [List.getElem?_cons_zero, List.getElem?_cons_succ] at x0 x1 x2
  clear hw0
  go_wp2_with (first
    | (with_reducible refine (permutation_yes PA pn pc perm _ P3.out (RP.out.keep C0.out) (by omega)).mono ?_
       rintro e w1 ⟨rfl, hc1⟩
       have C1 := As.mk (C0.out.trans hc1 (fun _ _ e => e))
       have B1 := As.mk (B0.out.chg hc1 (fun e => e))
       have y1 := B1.out.cell 1
       simp only [List.getElem?_cons_zero, List.getElem?_cons_succ] at y1
       clear hc1 x0 x1 x2)
    | (with_reducible refine (permutation_yes SA 256 sc sub _ P4.out (RS.out.keep C1.out) (by omega)).mono ?_
       rintro e w2 ⟨rfl, hc2⟩
       have C2 := As.mk (C1.out.trans hc2 (fun _ _ e => e))
       clear hc2))
  go_ret
  exact ⟨rfl, C2.out⟩
/-- zzFits27: none of the three parts is longer than 2^31 - 1. -/
def Fits27 (pn sn mn : Nat) : Prop := pn ≤ 2147483647 ∧ sn ≤ 2147483647 ∧ mn ≤ 2147483647
instance (pn sn mn : Nat) : Decidable (Fits27 pn sn mn) := by unfold Fits27; infer_instance
set_option maxHeartbeats 1000000 in
theorem fits27_any (PA : Option Addr) (pn pc : Nat) (SA : Option Addr) (sn sc : Nat) (MA : Option Addr) (mn mc : Nat) (w : World) :
    Calls Tryd.prog 4 #[blkV PA pn pc SA sn sc MA mn mc] w fun e w' => e = .returned (.bool (decide (Fits27 pn sn mn))) ∧ Chg NoB w w' := by
  unfold blkV
  by_cases h1 : pn ≤ 2147483647
  · have i1 : ¬ ((pn : Int) > 2147483647) := by omega
    by_cases h2 : sn ≤ 2147483647
    · have i2 : ¬ ((sn : Int) > 2147483647) := by omega
      by_cases h3 : mn ≤ 2147483647
      · have i3 : ¬ ((mn : Int) > 2147483647) := by omega
        have H : As (decide (Fits27 pn sn mn) = true) := ⟨decide_eq_true ⟨h1, h2, h3⟩⟩
        go_enter Tryd.func4, Tryd.ntmps4
        go_wp2
        go_ret
        exact ⟨by rw [H.out]; rfl, (Chg.refl NoB w).alloc _⟩
      · have i3 : ((mn : Int) > 2147483647) := by omega
        have H : As (decide (Fits27 pn sn mn) = false) := ⟨decide_eq_false fun h => h3 h.2.2⟩
        go_enter Tryd.func4, Tryd.ntmps4
        go_wp2
        go_ret
        exact ⟨by rw [H.out]; rfl, (Chg.refl NoB w).alloc _⟩
    · have i2 : ((sn : Int) > 2147483647) := by omega
      have H : As (decide (Fits27 pn sn mn) = false) := ⟨decide_eq_false fun h => h2 h.2.1⟩
      go_enter Tryd.func4, Tryd.ntmps4
      go_wp2
      go_ret
      exact ⟨by rw [H.out]; rfl, (Chg.refl NoB w).alloc _⟩
  · have i1 : ((pn : Int) > 2147483647) := by omega
    have H : As (decide (Fits27 pn sn mn) = false) := ⟨decide_eq_false fun h => h1 h.1⟩
    go_enter Tryd.func4, Tryd.ntmps4
    go_wp2
    go_ret
    exact ⟨by rw [H.out]; rfl, (Chg.refl NoB w).alloc _⟩
set_option maxRecDepth 100000 in
set_option maxHeartbeats 1000000 in
theorem wide_any (PA : Option Addr) (pn pc : Nat) (SA : Option Addr) (sn sc : Nat) (MA : Option Addr) (mn mc : Nat) (perm sub : List Int) (w : World) (hp : pn = perm.length) (hs : sn = sub.length) (rp : Rb w PA perm) (rs : Rb w SA sub) (bp : Byt perm) (bs : Byt sub) :
    Calls Tryd.prog 5 #[blkV PA pn pc SA sn sc MA mn mc] w fun e w' => e = .returned (.bool (decide (mn = 16 ∧ RightB perm sub 16))) ∧ Chg NoB w w' := by
  have RP := As.mk rp
  have RS := As.mk rs
  have HP := As.mk hp
  have HS := As.mk hs
  have BP := As.mk bp
  have BS := As.mk bs
  clear rp rs hp hs bp bs
  unfold blkV
  by_cases h1 : mn = 16
  · subst h1
    have H4 : As (decide (16 = 16 ∧ RightB perm sub 16) = decide (RightB perm sub 16)) := ⟨by simp⟩
    go_enter Tryd.func5, Tryd.ntmps5
    go_wp2_with (first
      | (with_reducible refine (rightBlock_any PA pn pc SA sn sc MA 16 mc perm sub _ HP.out HS.out (RP.out.alloc _) (RS.out.alloc _) BP.out BS.out).mono ?_
         rintro e w1 ⟨rfl, hc1⟩
         have C1 := As.mk (((Chg.refl NoB w).alloc (.cells #[.slice PA pn pc, .slice SA sn sc, .slice MA 16 mc] 24)).trans hc1 (fun _ _ e => e))
         clear hc1))
    go_ret
    exact ⟨by simp, C1.out⟩
  · have i1 : ((mn : Int) == 16) = false := by simp; omega
    have H4 : As (decide (mn = 16 ∧ RightB perm sub 16) = false) := ⟨decide_eq_false fun h => h1 h.1⟩
    clear h1
    go_enter Tryd.func5, Tryd.ntmps5
    go_wp2
    go_ret
    exact ⟨by rw [H4.out]; rfl, (Chg.refl NoB w).alloc _⟩
end Go.Proofs.YtlpningplmbnhaaDoor
