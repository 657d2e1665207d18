/- The other ways of FnS2kSalted, and its walk. (Printed by wip/salt2.py.) -/
import Derived.Test.YtmokepbmodmgeaaSaltGood
set_option linter.unusedVariables false
set_option linter.unusedSimpArgs false
namespace Go.Proofs.Ytmokepbmodmgeaa
open Go.RowKit V
set_option maxRecDepth 100000 in
set_option maxHeartbeats 1000000 in
theorem salt_unfit (SA : Option Addr) (sn sc : Nat) (MA : Option Addr) (mn mc : Nat) (sz : Int) (PA : Option Addr) (pn pc : Nat) (TA : Option Addr) (tn tc : Nat) (w : World) (h : ¬ (sn ≤ 2147483647 ∧ mn ≤ 2147483647)) :
    Calls Try.prog 4 #[.agg #[.slice SA sn sc, .slice MA mn mc], .int .i64 sz, .slice PA pn pc, .slice TA tn tc] w (Yes w) := by
  have HPR := As.mk h
  clear h
  have B0 := As.mk (Blk.new w 24 [.slice SA sn sc, .slice MA mn mc])
  have C0 := As.mk ((Chg.refl NoB w).alloc (.cells #[.slice SA sn sc, .slice MA mn mc] 24))
  go_enter Try.func4, Try.ntmps4
  go_wp2_with fail
  refine (fits_any SA sn sc MA mn mc _).mono ?_
  rintro e w1 ⟨he, hc1⟩
  obtain rfl : e = .returned (.bool false) := by rw [he]; simp; have := HPR.out; omega
  clear he
  have C1 := As.mk (C0.out.trans hc1 (fun _ _ e => e))
  have b1 := B0.out.chg hc1 (fun e => e)
  have x0 := b1.cell 0
  have x1 := b1.cell 1
  simp only [List.getElem?_cons_zero, List.getElem?_cons_succ] at x0 x1
  have B1 := As.mk b1
  clear hc1 b1
  go_wp2_with fail
  go_ret
  exact yes_of C1.out
set_option maxRecDepth 100000 in
set_option maxHeartbeats 1000000 in
theorem salt_long1 (SA : Option Addr) (sn sc : Nat) (MA : Option Addr) (mn mc : Nat) (sz : Int) (PA : Option Addr) (pn pc : Nat) (TA : Option Addr) (tn tc : Nat) (w : World) (h : sn ≤ 2147483647 ∧ mn ≤ 2147483647) (h2 : 2147483647 < pn) :
    Calls Try.prog 4 #[.agg #[.slice SA sn sc, .slice MA mn mc], .int .i64 sz, .slice PA pn pc, .slice TA tn tc] w (Yes w) := by
  have HPR := As.mk h
  have h3 : (2147483647 : Int) < (pn : Int) := by omega
  clear h
  have B0 := As.mk (Blk.new w 24 [.slice SA sn sc, .slice MA mn mc])
  have C0 := As.mk ((Chg.refl NoB w).alloc (.cells #[.slice SA sn sc, .slice MA mn mc] 24))
  go_enter Try.func4, Try.ntmps4
  go_wp2_with fail
  refine (fits_any SA sn sc MA mn mc _).mono ?_
  rintro e w1 ⟨he, hc1⟩
  obtain rfl : e = .returned (.bool true) := by rw [he]; simp; have := HPR.out; omega
  clear he
  have C1 := As.mk (C0.out.trans hc1 (fun _ _ e => e))
  have b1 := B0.out.chg hc1 (fun e => e)
  have x0 := b1.cell 0
  have x1 := b1.cell 1
  simp only [List.getElem?_cons_zero, List.getElem?_cons_succ] at x0 x1
  have B1 := As.mk b1
  clear hc1 b1
  go_wp2_with fail
  go_ret
  exact yes_of C1.out
set_option maxRecDepth 100000 in
set_option maxHeartbeats 1000000 in
theorem salt_long2 (SA : Option Addr) (sn sc : Nat) (MA : Option Addr) (mn mc : Nat) (sz : Int) (PA : Option Addr) (pn pc : Nat) (TA : Option Addr) (tn tc : Nat) (w : World) (h : sn ≤ 2147483647 ∧ mn ≤ 2147483647) (h2 : pn ≤ 2147483647) (h4 : 2147483647 < tn) :
    Calls Try.prog 4 #[.agg #[.slice SA sn sc, .slice MA mn mc], .int .i64 sz, .slice PA pn pc, .slice TA tn tc] w (Yes w) := by
  have HPR := As.mk h
  have h3 : (2147483647 : Int) < (tn : Int) := by omega
  have h5 : ¬ (2147483647 : Int) < (pn : Int) := by omega
  clear h
  have B0 := As.mk (Blk.new w 24 [.slice SA sn sc, .slice MA mn mc])
  have C0 := As.mk ((Chg.refl NoB w).alloc (.cells #[.slice SA sn sc, .slice MA mn mc] 24))
  go_enter Try.func4, Try.ntmps4
  go_wp2_with fail
  refine (fits_any SA sn sc MA mn mc _).mono ?_
  rintro e w1 ⟨he, hc1⟩
  obtain rfl : e = .returned (.bool true) := by rw [he]; simp; have := HPR.out; omega
  clear he
  have C1 := As.mk (C0.out.trans hc1 (fun _ _ e => e))
  have b1 := B0.out.chg hc1 (fun e => e)
  have x0 := b1.cell 0
  have x1 := b1.cell 1
  simp only [List.getElem?_cons_zero, List.getElem?_cons_succ] at x0 x1
  have B1 := As.mk b1
  clear hc1 b1
  go_wp2_with fail
  go_ret
  exact yes_of C1.out
set_option maxRecDepth 100000 in
set_option maxHeartbeats 1000000 in
theorem salt_wrong (SA : Option Addr) (sn sc : Nat) (MA : Option Addr) (mn mc : Nat) (sz : Int) (PA : Option Addr) (pn pc : Nat) (TA : Option Addr) (tn tc : Nat) (w : World) (h : sn ≤ 2147483647 ∧ mn ≤ 2147483647) (hp : pn ≤ 2147483647) (ht : tn ≤ 2147483647) (hr : ¬ (sn = 256 ∧ 1 ≤ mn ∧ mn ≤ 64)) :
    Calls Try.prog 4 #[.agg #[.slice SA sn sc, .slice MA mn mc], .int .i64 sz, .slice PA pn pc, .slice TA tn tc] w (Yes w) := by
  have HPR := As.mk h
  have hp5 : ¬ (2147483647 : Int) < (pn : Int) := by omega
  have ht5 : ¬ (2147483647 : Int) < (tn : Int) := by omega
  clear h
  have HRI := As.mk hr
  clear hr
  have B0 := As.mk (Blk.new w 24 [.slice SA sn sc, .slice MA mn mc])
  have C0 := As.mk ((Chg.refl NoB w).alloc (.cells #[.slice SA sn sc, .slice MA mn mc] 24))
  go_enter Try.func4, Try.ntmps4
  go_wp2_with fail
  refine (fits_any SA sn sc MA mn mc _).mono ?_
  rintro e w1 ⟨he, hc1⟩
  obtain rfl : e = .returned (.bool true) := by rw [he]; simp; have := HPR.out; omega
  clear he
  have C1 := As.mk (C0.out.trans hc1 (fun _ _ e => e))
  have b1 := B0.out.chg hc1 (fun e => e)
  have x0 := b1.cell 0
  have x1 := b1.cell 1
  simp only [List.getElem?_cons_zero, List.getElem?_cons_succ] at x0 x1
  have B1 := As.mk b1
  clear hc1 b1
  go_wp2_with fail
  refine (rightHash_any SA sn sc MA mn mc _).mono ?_
  rintro e w2 ⟨he, hc2⟩
  obtain rfl : e = .returned (.bool false) := by rw [he]; simp; have := HRI.out; omega
  clear he
  have C2 := As.mk (C1.out.trans hc2 (fun _ _ e => e))
  have B2 := As.mk (B1.out.chg hc2 (fun e => e))
  clear hc2 x0 x1
  go_wp2_with fail
  go_ret
  exact yes_of C2.out
set_option maxRecDepth 100000 in
set_option maxHeartbeats 1000000 in
theorem salt_neg (SA : Option Addr) (sn sc : Nat) (MA : Option Addr) (mn mc : Nat) (sz : Int) (PA : Option Addr) (pn pc : Nat) (TA : Option Addr) (tn tc : Nat) (w : World) (h : sn ≤ 2147483647 ∧ mn ≤ 2147483647) (hp : pn ≤ 2147483647) (ht : tn ≤ 2147483647) (hr : sn = 256 ∧ 1 ≤ mn ∧ mn ≤ 64) (hz : sz < 0) :
    Calls Try.prog 4 #[.agg #[.slice SA sn sc, .slice MA mn mc], .int .i64 sz, .slice PA pn pc, .slice TA tn tc] w (Yes w) := by
  have HPR := As.mk h
  have hp5 : ¬ (2147483647 : Int) < (pn : Int) := by omega
  have ht5 : ¬ (2147483647 : Int) < (tn : Int) := by omega
  clear h
  have HRI := As.mk hr
  clear hr
  have B0 := As.mk (Blk.new w 24 [.slice SA sn sc, .slice MA mn mc])
  have C0 := As.mk ((Chg.refl NoB w).alloc (.cells #[.slice SA sn sc, .slice MA mn mc] 24))
  go_enter Try.func4, Try.ntmps4
  go_wp2_with fail
  refine (fits_any SA sn sc MA mn mc _).mono ?_
  rintro e w1 ⟨he, hc1⟩
  obtain rfl : e = .returned (.bool true) := by rw [he]; simp; have := HPR.out; omega
  clear he
  have C1 := As.mk (C0.out.trans hc1 (fun _ _ e => e))
  have b1 := B0.out.chg hc1 (fun e => e)
  have x0 := b1.cell 0
  have x1 := b1.cell 1
  simp only [List.getElem?_cons_zero, List.getElem?_cons_succ] at x0 x1
  have B1 := As.mk b1
  clear hc1 b1
  go_wp2_with fail
  refine (rightHash_any SA sn sc MA mn mc _).mono ?_
  rintro e w2 ⟨he, hc2⟩
  obtain rfl : e = .returned (.bool true) := by rw [he]; simp; have := HRI.out; omega
  clear he
  have C2 := As.mk (C1.out.trans hc2 (fun _ _ e => e))
  have B2 := As.mk (B1.out.chg hc2 (fun e => e))
  clear hc2 x0 x1
  go_wp2_with fail
  go_ret
  exact yes_of C2.out
set_option maxRecDepth 100000 in
set_option maxHeartbeats 1000000 in
theorem salt_big (SA : Option Addr) (sn sc : Nat) (MA : Option Addr) (mn mc : Nat) (sz : Int) (PA : Option Addr) (pn pc : Nat) (TA : Option Addr) (tn tc : Nat) (w : World) (h : sn ≤ 2147483647 ∧ mn ≤ 2147483647) (hp : pn ≤ 2147483647) (ht : tn ≤ 2147483647) (hr : sn = 256 ∧ 1 ≤ mn ∧ mn ≤ 64) (hz0 : 0 ≤ sz) (hz : 600 < sz) :
    Calls Try.prog 4 #[.agg #[.slice SA sn sc, .slice MA mn mc], .int .i64 sz, .slice PA pn pc, .slice TA tn tc] w (Yes w) := by
  have HPR := As.mk h
  have hp5 : ¬ (2147483647 : Int) < (pn : Int) := by omega
  have ht5 : ¬ (2147483647 : Int) < (tn : Int) := by omega
  clear h
  have HRI := As.mk hr
  clear hr
  have B0 := As.mk (Blk.new w 24 [.slice SA sn sc, .slice MA mn mc])
  have C0 := As.mk ((Chg.refl NoB w).alloc (.cells #[.slice SA sn sc, .slice MA mn mc] 24))
  go_enter Try.func4, Try.ntmps4
  go_wp2_with fail
  refine (fits_any SA sn sc MA mn mc _).mono ?_
  rintro e w1 ⟨he, hc1⟩
  obtain rfl : e = .returned (.bool true) := by rw [he]; simp; have := HPR.out; omega
  clear he
  have C1 := As.mk (C0.out.trans hc1 (fun _ _ e => e))
  have b1 := B0.out.chg hc1 (fun e => e)
  have x0 := b1.cell 0
  have x1 := b1.cell 1
  simp only [List.getElem?_cons_zero, List.getElem?_cons_succ] at x0 x1
  have B1 := As.mk b1
  clear hc1 b1
  go_wp2_with fail
  refine (rightHash_any SA sn sc MA mn mc _).mono ?_
  rintro e w2 ⟨he, hc2⟩
  obtain rfl : e = .returned (.bool true) := by rw [he]; simp; have := HRI.out; omega
  clear he
  have C2 := As.mk (C1.out.trans hc2 (fun _ _ e => e))
  have B2 := As.mk (B1.out.chg hc2 (fun e => e))
  clear hc2 x0 x1
  go_wp2_with fail
  go_ret
  exact yes_of C2.out
set_option maxRecDepth 100000 in
set_option maxHeartbeats 1000000 in
theorem salt_long (SA : Option Addr) (sn sc : Nat) (MA : Option Addr) (mn mc : Nat) (sz : Int) (PA : Option Addr) (pn pc : Nat) (TA : Option Addr) (tn tc : Nat) (w : World) (h : sn ≤ 2147483647 ∧ mn ≤ 2147483647) (hp : pn ≤ 2147483647) (ht : tn ≤ 2147483647) (hr : sn = 256 ∧ 1 ≤ mn ∧ mn ≤ 64) (hz0 : 0 ≤ sz) (hz : sz ≤ 600) (hb : ¬ (pn ≤ 4096 ∧ tn ≤ 4096)) :
    Calls Try.prog 4 #[.agg #[.slice SA sn sc, .slice MA mn mc], .int .i64 sz, .slice PA pn pc, .slice TA tn tc] w (Yes w) := by
  have HPR := As.mk h
  have hp5 : ¬ (2147483647 : Int) < (pn : Int) := by omega
  have ht5 : ¬ (2147483647 : Int) < (tn : Int) := by omega
  clear h
  have HRI := As.mk hr
  clear hr
  have HBR := As.mk hb
  clear hb
  have B0 := As.mk (Blk.new w 24 [.slice SA sn sc, .slice MA mn mc])
  have C0 := As.mk ((Chg.refl NoB w).alloc (.cells #[.slice SA sn sc, .slice MA mn mc] 24))
  go_enter Try.func4, Try.ntmps4
  go_wp2_with fail
  refine (fits_any SA sn sc MA mn mc _).mono ?_
  rintro e w1 ⟨he, hc1⟩
  obtain rfl : e = .returned (.bool true) := by rw [he]; simp; have := HPR.out; omega
  clear he
  have C1 := As.mk (C0.out.trans hc1 (fun _ _ e => e))
  have b1 := B0.out.chg hc1 (fun e => e)
  have x0 := b1.cell 0
  have x1 := b1.cell 1
  simp only [List.getElem?_cons_zero, List.getElem?_cons_succ] at x0 x1
  have B1 := As.mk b1
  clear hc1 b1
  go_wp2_with fail
  refine (rightHash_any SA sn sc MA mn mc _).mono ?_
  rintro e w2 ⟨he, hc2⟩
  obtain rfl : e = .returned (.bool true) := by rw [he]; simp; have := HRI.out; omega
  clear he
  have C2 := As.mk (C1.out.trans hc2 (fun _ _ e => e))
  have B2 := As.mk (B1.out.chg hc2 (fun e => e))
  clear hc2 x0 x1
  go_wp2_with fail
  refine (brief_two PA pn pc TA tn tc 22 w2).mono ?_
  rintro e w3' ⟨he, hw3⟩
  obtain rfl : e = .returned (.bool false) := by rw [he]; simp; have := HBR.out; omega
  clear he
  subst hw3
  obtain ⟨w3, hw3⟩ : ∃ w3, w3 = w2.alloc (.cells #[.slice PA pn pc, .slice TA tn tc] 22) := ⟨_, rfl⟩
  have C3 : As (Chg NoB w w3) := ⟨by rw [hw3]; exact C2.out.alloc _⟩
  rw [← hw3]
  clear hw3
  go_wp2_with fail
  go_ret
  exact yes_of C3.out
/-- The walk of FnS2kSalted. -/
theorem salt_walk (SA : Option Addr) (sn sc : Nat) (MA : Option Addr) (mn mc : Nat) (sz : Int) (PA : Option Addr) (pn pc : Nat) (TA : Option Addr) (tn tc : Nat) (w : World) (sub mask pass salt : List Int) (rs : Rb w SA sub) (rm : Rb w MA mask) (bs : Byt sub) (bm : Byt mask) (rp : Rb w PA pass) (rt : Rb w TA salt) (bp : Byt pass) (bt : Byt salt) (hsn : sn = sub.length) (hmn : mn = mask.length) (hpn : pn = pass.length) (htn : tn = salt.length) :
    Calls Try.prog 4 #[.agg #[.slice SA sn sc, .slice MA mn mc], .int .i64 sz, .slice PA pn pc, .slice TA tn tc] w (Yes w) := by
  by_cases h : sn ≤ 2147483647 ∧ mn ≤ 2147483647
  · by_cases hp : pn ≤ 2147483647
    · by_cases ht : tn ≤ 2147483647
      · by_cases hr : sn = 256 ∧ 1 ≤ mn ∧ mn ≤ 64
        · by_cases z0 : 0 ≤ sz
          · by_cases z6 : sz ≤ 600
            · by_cases hb : pn ≤ 4096 ∧ tn ≤ 4096
              · obtain ⟨size, rfl⟩ := Int.eq_ofNat_of_zero_le z0
                obtain ⟨h256, h1, h64⟩ := hr
                subst h256
                exact salt_good SA sc MA mn mc sub mask pass salt size PA pn pc TA tn tc w hsn.symm hmn.symm h1 h64 rs rm bs bm rp rt hpn htn bp bt (by omega) hb.1 hb.2
              · exact salt_long SA sn sc MA mn mc sz PA pn pc TA tn tc w h hp ht hr z0 z6 hb
            · exact salt_big SA sn sc MA mn mc sz PA pn pc TA tn tc w h hp ht hr z0 (by omega)
          · exact salt_neg SA sn sc MA mn mc sz PA pn pc TA tn tc w h hp ht hr (by omega)
        · exact salt_wrong SA sn sc MA mn mc sz PA pn pc TA tn tc w h hp ht hr
      · exact salt_long2 SA sn sc MA mn mc sz PA pn pc TA tn tc w h hp (by omega)
    · exact salt_long1 SA sn sc MA mn mc sz PA pn pc TA tn tc w h (by omega)
  · exact salt_unfit SA sn sc MA mn mc sz PA pn pc TA tn tc w h
end Go.Proofs.Ytmokepbmodmgeaa
