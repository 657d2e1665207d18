/- The other ways of FnEcdhKey. (Printed by wip/ecdh2.py.) -/
import Derived.Test.YtdofkokeebgigaaDoorEcdhG
set_option linter.unusedVariables false
set_option linter.unusedSimpArgs false
namespace Go.Proofs.YtdofkokeebgigaaDoor
open Go.RowKit V
set_option maxRecDepth 100000 in
set_option maxHeartbeats 1000000 in
theorem ecdh_unfit (SA : Option Addr) (sn sc : Nat) (MA : Option Addr) (mn mc : Nat) (i0 i1 sz : Int) (ZA : Option Addr) (zn zc : Nat) (OA : Option Addr) (on oc : Nat) (FA : Option Addr) (fn fc : Nat) (w : World) (h : ¬ (sn ≤ 2147483647 ∧ mn ≤ 2147483647)) :
    Calls Tryd.prog 3 #[.agg #[.slice SA sn sc, .slice MA mn mc], .agg #[.int .u8 i0, .int .u8 i1], .int .i64 sz, .slice ZA zn zc, .slice OA on oc, .slice FA fn fc] w (Yes w) := by
  have HPR := As.mk h
  clear h
  have BH0 := As.mk ((Blk.new w 24 [.slice SA sn sc, .slice MA mn mc]).alloc (.cells #[.int .u8 i0, .int .u8 i1] 25))
  have C0 := As.mk (((Chg.refl NoB w).alloc (.cells #[.slice SA sn sc, .slice MA mn mc] 24)).alloc (.cells #[.int .u8 i0, .int .u8 i1] 25))
  go_enter Tryd.func3, Tryd.ntmps3
  go_wp2_with fail
  refine (fits_any SA sn sc MA mn mc _).mono ?_
  rintro e w1 ⟨he, hc1⟩
  obtain rfl : e = .returned (.bool false) := by rw [he]; simp; have := HPR.out; omega
  clear he
  have C1 := As.mk (C0.out.trans hc1 (fun _ _ e => e))
  have BH1 := As.mk (BH0.out.chg hc1 (fun e => e))
  have x0 := BH1.out.cell 0
  have x1 := BH1.out.cell 1
  simp only [List.getElem?_cons_zero, List.getElem?_cons_succ] at x0 x1
  clear hc1
  go_wp2_with fail
  go_ret
  exact yes_of C1.out
set_option maxRecDepth 100000 in
set_option maxHeartbeats 1000000 in
theorem ecdh_l1 (SA : Option Addr) (sn sc : Nat) (MA : Option Addr) (mn mc : Nat) (i0 i1 sz : Int) (ZA : Option Addr) (zn zc : Nat) (OA : Option Addr) (on oc : Nat) (FA : Option Addr) (fn fc : Nat) (w : World) (h : sn ≤ 2147483647 ∧ mn ≤ 2147483647) (h2 : 2147483647 < zn) :
    Calls Tryd.prog 3 #[.agg #[.slice SA sn sc, .slice MA mn mc], .agg #[.int .u8 i0, .int .u8 i1], .int .i64 sz, .slice ZA zn zc, .slice OA on oc, .slice FA fn fc] w (Yes w) := by
  have HPR := As.mk h
  have g1 : ((2147483647 : Int) < (zn : Int)) := by omega
  clear h
  have BH0 := As.mk ((Blk.new w 24 [.slice SA sn sc, .slice MA mn mc]).alloc (.cells #[.int .u8 i0, .int .u8 i1] 25))
  have C0 := As.mk (((Chg.refl NoB w).alloc (.cells #[.slice SA sn sc, .slice MA mn mc] 24)).alloc (.cells #[.int .u8 i0, .int .u8 i1] 25))
  go_enter Tryd.func3, Tryd.ntmps3
  go_wp2_with fail
  refine (fits_any SA sn sc MA mn mc _).mono ?_
  rintro e w1 ⟨he, hc1⟩
  obtain rfl : e = .returned (.bool true) := by rw [he]; simp; have := HPR.out; omega
  clear he
  have C1 := As.mk (C0.out.trans hc1 (fun _ _ e => e))
  have BH1 := As.mk (BH0.out.chg hc1 (fun e => e))
  have x0 := BH1.out.cell 0
  have x1 := BH1.out.cell 1
  simp only [List.getElem?_cons_zero, List.getElem?_cons_succ] at x0 x1
  clear hc1
  go_wp2_with fail
  go_ret
  exact yes_of C1.out
set_option maxRecDepth 100000 in
set_option maxHeartbeats 1000000 in
theorem ecdh_l2 (SA : Option Addr) (sn sc : Nat) (MA : Option Addr) (mn mc : Nat) (i0 i1 sz : Int) (ZA : Option Addr) (zn zc : Nat) (OA : Option Addr) (on oc : Nat) (FA : Option Addr) (fn fc : Nat) (w : World) (h : sn ≤ 2147483647 ∧ mn ≤ 2147483647) (h2 : zn ≤ 2147483647) (h3 : 2147483647 < on) :
    Calls Tryd.prog 3 #[.agg #[.slice SA sn sc, .slice MA mn mc], .agg #[.int .u8 i0, .int .u8 i1], .int .i64 sz, .slice ZA zn zc, .slice OA on oc, .slice FA fn fc] w (Yes w) := by
  have HPR := As.mk h
  have g1 : ¬ ((2147483647 : Int) < (zn : Int)) := by omega
  have g2 : ((2147483647 : Int) < (on : Int)) := by omega
  clear h
  have BH0 := As.mk ((Blk.new w 24 [.slice SA sn sc, .slice MA mn mc]).alloc (.cells #[.int .u8 i0, .int .u8 i1] 25))
  have C0 := As.mk (((Chg.refl NoB w).alloc (.cells #[.slice SA sn sc, .slice MA mn mc] 24)).alloc (.cells #[.int .u8 i0, .int .u8 i1] 25))
  go_enter Tryd.func3, Tryd.ntmps3
  go_wp2_with fail
  refine (fits_any SA sn sc MA mn mc _).mono ?_
  rintro e w1 ⟨he, hc1⟩
  obtain rfl : e = .returned (.bool true) := by rw [he]; simp; have := HPR.out; omega
  clear he
  have C1 := As.mk (C0.out.trans hc1 (fun _ _ e => e))
  have BH1 := As.mk (BH0.out.chg hc1 (fun e => e))
  have x0 := BH1.out.cell 0
  have x1 := BH1.out.cell 1
  simp only [List.getElem?_cons_zero, List.getElem?_cons_succ] at x0 x1
  clear hc1
  go_wp2_with fail
  go_ret
  exact yes_of C1.out
set_option maxRecDepth 100000 in
set_option maxHeartbeats 1000000 in
theorem ecdh_l3 (SA : Option Addr) (sn sc : Nat) (MA : Option Addr) (mn mc : Nat) (i0 i1 sz : Int) (ZA : Option Addr) (zn zc : Nat) (OA : Option Addr) (on oc : Nat) (FA : Option Addr) (fn fc : Nat) (w : World) (h : sn ≤ 2147483647 ∧ mn ≤ 2147483647) (h2 : zn ≤ 2147483647) (h3 : on ≤ 2147483647) (h4 : 2147483647 < fn) :
    Calls Tryd.prog 3 #[.agg #[.slice SA sn sc, .slice MA mn mc], .agg #[.int .u8 i0, .int .u8 i1], .int .i64 sz, .slice ZA zn zc, .slice OA on oc, .slice FA fn fc] w (Yes w) := by
  have HPR := As.mk h
  have g1 : ¬ ((2147483647 : Int) < (zn : Int)) := by omega
  have g2 : ¬ ((2147483647 : Int) < (on : Int)) := by omega
  have g3 : ((2147483647 : Int) < (fn : Int)) := by omega
  clear h
  have BH0 := As.mk ((Blk.new w 24 [.slice SA sn sc, .slice MA mn mc]).alloc (.cells #[.int .u8 i0, .int .u8 i1] 25))
  have C0 := As.mk (((Chg.refl NoB w).alloc (.cells #[.slice SA sn sc, .slice MA mn mc] 24)).alloc (.cells #[.int .u8 i0, .int .u8 i1] 25))
  go_enter Tryd.func3, Tryd.ntmps3
  go_wp2_with fail
  refine (fits_any SA sn sc MA mn mc _).mono ?_
  rintro e w1 ⟨he, hc1⟩
  obtain rfl : e = .returned (.bool true) := by rw [he]; simp; have := HPR.out; omega
  clear he
  have C1 := As.mk (C0.out.trans hc1 (fun _ _ e => e))
  have BH1 := As.mk (BH0.out.chg hc1 (fun e => e))
  have x0 := BH1.out.cell 0
  have x1 := BH1.out.cell 1
  simp only [List.getElem?_cons_zero, List.getElem?_cons_succ] at x0 x1
  clear hc1
  go_wp2_with fail
  go_ret
  exact yes_of C1.out
set_option maxRecDepth 100000 in
set_option maxHeartbeats 1000000 in
theorem ecdh_wrong (SA : Option Addr) (sn sc : Nat) (MA : Option Addr) (mn mc : Nat) (i0 i1 sz : Int) (ZA : Option Addr) (zn zc : Nat) (OA : Option Addr) (on oc : Nat) (FA : Option Addr) (fn fc : Nat) (w : World) (h : sn ≤ 2147483647 ∧ mn ≤ 2147483647) (h2 : zn ≤ 2147483647) (h3 : on ≤ 2147483647) (h4 : fn ≤ 2147483647) (hr : ¬ (sn = 256 ∧ 1 ≤ mn ∧ mn ≤ 64)) :
    Calls Tryd.prog 3 #[.agg #[.slice SA sn sc, .slice MA mn mc], .agg #[.int .u8 i0, .int .u8 i1], .int .i64 sz, .slice ZA zn zc, .slice OA on oc, .slice FA fn fc] w (Yes w) := by
  have HPR := As.mk h
  have g1 : ¬ ((2147483647 : Int) < (zn : Int)) := by omega
  have g2 : ¬ ((2147483647 : Int) < (on : Int)) := by omega
  have g3 : ¬ ((2147483647 : Int) < (fn : Int)) := by omega
  clear h
  have HRI := As.mk hr
  clear hr
  have BH0 := As.mk ((Blk.new w 24 [.slice SA sn sc, .slice MA mn mc]).alloc (.cells #[.int .u8 i0, .int .u8 i1] 25))
  have C0 := As.mk (((Chg.refl NoB w).alloc (.cells #[.slice SA sn sc, .slice MA mn mc] 24)).alloc (.cells #[.int .u8 i0, .int .u8 i1] 25))
  go_enter Tryd.func3, Tryd.ntmps3
  go_wp2_with fail
  refine (fits_any SA sn sc MA mn mc _).mono ?_
  rintro e w1 ⟨he, hc1⟩
  obtain rfl : e = .returned (.bool true) := by rw [he]; simp; have := HPR.out; omega
  clear he
  have C1 := As.mk (C0.out.trans hc1 (fun _ _ e => e))
  have BH1 := As.mk (BH0.out.chg hc1 (fun e => e))
  have x0 := BH1.out.cell 0
  have x1 := BH1.out.cell 1
  simp only [List.getElem?_cons_zero, List.getElem?_cons_succ] at x0 x1
  clear hc1
  go_wp2_with fail
  refine (rightHash_any SA sn sc MA mn mc _).mono ?_
  rintro e w2 ⟨he, hc2⟩
  obtain rfl : e = .returned (.bool false) := by rw [he]; simp; have := HRI.out; omega
  clear he
  have C2 := As.mk (C1.out.trans hc2 (fun _ _ e => e))
  have BH2 := As.mk (BH1.out.chg hc2 (fun e => e))
  clear hc2 x0 x1
  have x0 := BH2.out.cell 0
  have x1 := BH2.out.cell 1
  simp only [List.getElem?_cons_zero, List.getElem?_cons_succ] at x0 x1
  go_wp2_with fail
  go_ret
  exact yes_of C2.out
set_option maxRecDepth 100000 in
set_option maxHeartbeats 1000000 in
theorem ecdh_neg (SA : Option Addr) (sn sc : Nat) (MA : Option Addr) (mn mc : Nat) (i0 i1 sz : Int) (ZA : Option Addr) (zn zc : Nat) (OA : Option Addr) (on oc : Nat) (FA : Option Addr) (fn fc : Nat) (w : World) (h : sn ≤ 2147483647 ∧ mn ≤ 2147483647) (h2 : zn ≤ 2147483647) (h3 : on ≤ 2147483647) (h4 : fn ≤ 2147483647) (hr : sn = 256 ∧ 1 ≤ mn ∧ mn ≤ 64) (hz : sz < 0) :
    Calls Tryd.prog 3 #[.agg #[.slice SA sn sc, .slice MA mn mc], .agg #[.int .u8 i0, .int .u8 i1], .int .i64 sz, .slice ZA zn zc, .slice OA on oc, .slice FA fn fc] w (Yes w) := by
  have HPR := As.mk h
  have g1 : ¬ ((2147483647 : Int) < (zn : Int)) := by omega
  have g2 : ¬ ((2147483647 : Int) < (on : Int)) := by omega
  have g3 : ¬ ((2147483647 : Int) < (fn : Int)) := by omega
  clear h
  have HRI := As.mk hr
  clear hr
  have BH0 := As.mk ((Blk.new w 24 [.slice SA sn sc, .slice MA mn mc]).alloc (.cells #[.int .u8 i0, .int .u8 i1] 25))
  have C0 := As.mk (((Chg.refl NoB w).alloc (.cells #[.slice SA sn sc, .slice MA mn mc] 24)).alloc (.cells #[.int .u8 i0, .int .u8 i1] 25))
  go_enter Tryd.func3, Tryd.ntmps3
  go_wp2_with fail
  refine (fits_any SA sn sc MA mn mc _).mono ?_
  rintro e w1 ⟨he, hc1⟩
  obtain rfl : e = .returned (.bool true) := by rw [he]; simp; have := HPR.out; omega
  clear he
  have C1 := As.mk (C0.out.trans hc1 (fun _ _ e => e))
  have BH1 := As.mk (BH0.out.chg hc1 (fun e => e))
  have x0 := BH1.out.cell 0
  have x1 := BH1.out.cell 1
  simp only [List.getElem?_cons_zero, List.getElem?_cons_succ] at x0 x1
  clear hc1
  go_wp2_with fail
  refine (rightHash_any SA sn sc MA mn mc _).mono ?_
  rintro e w2 ⟨he, hc2⟩
  obtain rfl : e = .returned (.bool true) := by rw [he]; simp; have := HRI.out; omega
  clear he
  have C2 := As.mk (C1.out.trans hc2 (fun _ _ e => e))
  have BH2 := As.mk (BH1.out.chg hc2 (fun e => e))
  clear hc2 x0 x1
  have x0 := BH2.out.cell 0
  have x1 := BH2.out.cell 1
  simp only [List.getElem?_cons_zero, List.getElem?_cons_succ] at x0 x1
  go_wp2_with fail
  go_ret
  exact yes_of C2.out
set_option maxRecDepth 100000 in
set_option maxHeartbeats 1000000 in
theorem ecdh_big (SA : Option Addr) (sn sc : Nat) (MA : Option Addr) (mn mc : Nat) (i0 i1 sz : Int) (ZA : Option Addr) (zn zc : Nat) (OA : Option Addr) (on oc : Nat) (FA : Option Addr) (fn fc : Nat) (w : World) (h : sn ≤ 2147483647 ∧ mn ≤ 2147483647) (h2 : zn ≤ 2147483647) (h3 : on ≤ 2147483647) (h4 : fn ≤ 2147483647) (hr : sn = 256 ∧ 1 ≤ mn ∧ mn ≤ 64) (hz0 : 0 ≤ sz) (hz : (mn : Int) < sz) :
    Calls Tryd.prog 3 #[.agg #[.slice SA sn sc, .slice MA mn mc], .agg #[.int .u8 i0, .int .u8 i1], .int .i64 sz, .slice ZA zn zc, .slice OA on oc, .slice FA fn fc] w (Yes w) := by
  have HPR := As.mk h
  have g1 : ¬ ((2147483647 : Int) < (zn : Int)) := by omega
  have g2 : ¬ ((2147483647 : Int) < (on : Int)) := by omega
  have g3 : ¬ ((2147483647 : Int) < (fn : Int)) := by omega
  clear h
  have HRI := As.mk hr
  clear hr
  have BH0 := As.mk ((Blk.new w 24 [.slice SA sn sc, .slice MA mn mc]).alloc (.cells #[.int .u8 i0, .int .u8 i1] 25))
  have C0 := As.mk (((Chg.refl NoB w).alloc (.cells #[.slice SA sn sc, .slice MA mn mc] 24)).alloc (.cells #[.int .u8 i0, .int .u8 i1] 25))
  go_enter Tryd.func3, Tryd.ntmps3
  go_wp2_with fail
  refine (fits_any SA sn sc MA mn mc _).mono ?_
  rintro e w1 ⟨he, hc1⟩
  obtain rfl : e = .returned (.bool true) := by rw [he]; simp; have := HPR.out; omega
  clear he
  have C1 := As.mk (C0.out.trans hc1 (fun _ _ e => e))
  have BH1 := As.mk (BH0.out.chg hc1 (fun e => e))
  have x0 := BH1.out.cell 0
  have x1 := BH1.out.cell 1
  simp only [List.getElem?_cons_zero, List.getElem?_cons_succ] at x0 x1
  clear hc1
  go_wp2_with fail
  refine (rightHash_any SA sn sc MA mn mc _).mono ?_
  rintro e w2 ⟨he, hc2⟩
  obtain rfl : e = .returned (.bool true) := by rw [he]; simp; have := HRI.out; omega
  clear he
  have C2 := As.mk (C1.out.trans hc2 (fun _ _ e => e))
  have BH2 := As.mk (BH1.out.chg hc2 (fun e => e))
  clear hc2 x0 x1
  have x0 := BH2.out.cell 0
  have x1 := BH2.out.cell 1
  simp only [List.getElem?_cons_zero, List.getElem?_cons_succ] at x0 x1
  go_wp2_with fail
  go_ret
  exact yes_of C2.out
set_option maxRecDepth 100000 in
set_option maxHeartbeats 1000000 in
theorem ecdh_brief (SA : Option Addr) (sn sc : Nat) (MA : Option Addr) (mn mc : Nat) (i0 i1 sz : Int) (ZA : Option Addr) (zn zc : Nat) (OA : Option Addr) (on oc : Nat) (FA : Option Addr) (fn fc : Nat) (w : World) (h : sn ≤ 2147483647 ∧ mn ≤ 2147483647) (h2 : zn ≤ 2147483647) (h3 : on ≤ 2147483647) (h4 : fn ≤ 2147483647) (hr : sn = 256 ∧ 1 ≤ mn ∧ mn ≤ 64) (hz0 : 0 ≤ sz) (hz : sz ≤ (mn : Int)) (hb : ¬ zn ≤ 4096) :
    Calls Tryd.prog 3 #[.agg #[.slice SA sn sc, .slice MA mn mc], .agg #[.int .u8 i0, .int .u8 i1], .int .i64 sz, .slice ZA zn zc, .slice OA on oc, .slice FA fn fc] w (Yes w) := by
  have HPR := As.mk h
  have g1 : ¬ ((2147483647 : Int) < (zn : Int)) := by omega
  have g2 : ¬ ((2147483647 : Int) < (on : Int)) := by omega
  have g3 : ¬ ((2147483647 : Int) < (fn : Int)) := by omega
  clear h
  have HRI := As.mk hr
  clear hr
  have BH0 := As.mk ((Blk.new w 24 [.slice SA sn sc, .slice MA mn mc]).alloc (.cells #[.int .u8 i0, .int .u8 i1] 25))
  have C0 := As.mk (((Chg.refl NoB w).alloc (.cells #[.slice SA sn sc, .slice MA mn mc] 24)).alloc (.cells #[.int .u8 i0, .int .u8 i1] 25))
  go_enter Tryd.func3, Tryd.ntmps3
  go_wp2_with fail
  refine (fits_any SA sn sc MA mn mc _).mono ?_
  rintro e w1 ⟨he, hc1⟩
  obtain rfl : e = .returned (.bool true) := by rw [he]; simp; have := HPR.out; omega
  clear he
  have C1 := As.mk (C0.out.trans hc1 (fun _ _ e => e))
  have BH1 := As.mk (BH0.out.chg hc1 (fun e => e))
  have x0 := BH1.out.cell 0
  have x1 := BH1.out.cell 1
  simp only [List.getElem?_cons_zero, List.getElem?_cons_succ] at x0 x1
  clear hc1
  go_wp2_with fail
  refine (rightHash_any SA sn sc MA mn mc _).mono ?_
  rintro e w2 ⟨he, hc2⟩
  obtain rfl : e = .returned (.bool true) := by rw [he]; simp; have := HRI.out; omega
  clear he
  have C2 := As.mk (C1.out.trans hc2 (fun _ _ e => e))
  have BH2 := As.mk (BH1.out.chg hc2 (fun e => e))
  clear hc2 x0 x1
  have x0 := BH2.out.cell 0
  have x1 := BH2.out.cell 1
  simp only [List.getElem?_cons_zero, List.getElem?_cons_succ] at x0 x1
  go_wp2_with fail
  refine (brief_one ZA zn zc _ 1 22 w2 rfl).mono ?_
  rintro e w3' ⟨he, hw3⟩
  obtain rfl : e = .returned (.bool false) := by rw [he]; simp; omega
  clear he
  subst hw3
  have C3 := As.mk (C2.out.alloc (.cells #[.slice ZA zn zc] 22))
  go_wp2_with fail
  go_ret
  exact yes_of C3.out
set_option maxRecDepth 100000 in
set_option maxHeartbeats 1000000 in
theorem ecdh_o0 (SA : Option Addr) (sn sc : Nat) (MA : Option Addr) (mn mc : Nat) (i0 i1 sz : Int) (ZA : Option Addr) (zn zc : Nat) (OA : Option Addr) (on oc : Nat) (FA : Option Addr) (fn fc : Nat) (w : World) (h : sn ≤ 2147483647 ∧ mn ≤ 2147483647) (h2 : zn ≤ 2147483647) (h3 : on ≤ 2147483647) (h4 : fn ≤ 2147483647) (hr : sn = 256 ∧ 1 ≤ mn ∧ mn ≤ 64) (hz0 : 0 ≤ sz) (hz : sz ≤ (mn : Int)) (hb : zn ≤ 4096) (ho : on < 1) :
    Calls Tryd.prog 3 #[.agg #[.slice SA sn sc, .slice MA mn mc], .agg #[.int .u8 i0, .int .u8 i1], .int .i64 sz, .slice ZA zn zc, .slice OA on oc, .slice FA fn fc] w (Yes w) := by
  have HPR := As.mk h
  have g1 : ¬ ((2147483647 : Int) < (zn : Int)) := by omega
  have g2 : ¬ ((2147483647 : Int) < (on : Int)) := by omega
  have g3 : ¬ ((2147483647 : Int) < (fn : Int)) := by omega
  clear h
  have HRI := As.mk hr
  clear hr
  have g4 : (on : Int) < 1 := by omega
  have BH0 := As.mk ((Blk.new w 24 [.slice SA sn sc, .slice MA mn mc]).alloc (.cells #[.int .u8 i0, .int .u8 i1] 25))
  have C0 := As.mk (((Chg.refl NoB w).alloc (.cells #[.slice SA sn sc, .slice MA mn mc] 24)).alloc (.cells #[.int .u8 i0, .int .u8 i1] 25))
  go_enter Tryd.func3, Tryd.ntmps3
  go_wp2_with fail
  refine (fits_any SA sn sc MA mn mc _).mono ?_
  rintro e w1 ⟨he, hc1⟩
  obtain rfl : e = .returned (.bool true) := by rw [he]; simp; have := HPR.out; omega
  clear he
  have C1 := As.mk (C0.out.trans hc1 (fun _ _ e => e))
  have BH1 := As.mk (BH0.out.chg hc1 (fun e => e))
  have x0 := BH1.out.cell 0
  have x1 := BH1.out.cell 1
  simp only [List.getElem?_cons_zero, List.getElem?_cons_succ] at x0 x1
  clear hc1
  go_wp2_with fail
  refine (rightHash_any SA sn sc MA mn mc _).mono ?_
  rintro e w2 ⟨he, hc2⟩
  obtain rfl : e = .returned (.bool true) := by rw [he]; simp; have := HRI.out; omega
  clear he
  have C2 := As.mk (C1.out.trans hc2 (fun _ _ e => e))
  have BH2 := As.mk (BH1.out.chg hc2 (fun e => e))
  clear hc2 x0 x1
  have x0 := BH2.out.cell 0
  have x1 := BH2.out.cell 1
  simp only [List.getElem?_cons_zero, List.getElem?_cons_succ] at x0 x1
  go_wp2_with fail
  refine (brief_one ZA zn zc _ 1 22 w2 rfl).mono ?_
  rintro e w3' ⟨he, hw3⟩
  obtain rfl : e = .returned (.bool true) := by rw [he]; simp; omega
  clear he
  subst hw3
  have C3 := As.mk (C2.out.alloc (.cells #[.slice ZA zn zc] 22))
  go_wp2_with fail
  go_ret
  exact yes_of C3.out
set_option maxRecDepth 100000 in
set_option maxHeartbeats 1000000 in
theorem ecdh_o1 (SA : Option Addr) (sn sc : Nat) (MA : Option Addr) (mn mc : Nat) (i0 i1 sz : Int) (ZA : Option Addr) (zn zc : Nat) (OA : Option Addr) (on oc : Nat) (FA : Option Addr) (fn fc : Nat) (w : World) (h : sn ≤ 2147483647 ∧ mn ≤ 2147483647) (h2 : zn ≤ 2147483647) (h3 : on ≤ 2147483647) (h4 : fn ≤ 2147483647) (hr : sn = 256 ∧ 1 ≤ mn ∧ mn ≤ 64) (hz0 : 0 ≤ sz) (hz : sz ≤ (mn : Int)) (hb : zn ≤ 4096) (ho : 1 ≤ on) (ho2 : 100 < on) :
    Calls Tryd.prog 3 #[.agg #[.slice SA sn sc, .slice MA mn mc], .agg #[.int .u8 i0, .int .u8 i1], .int .i64 sz, .slice ZA zn zc, .slice OA on oc, .slice FA fn fc] w (Yes w) := by
  have HPR := As.mk h
  have g1 : ¬ ((2147483647 : Int) < (zn : Int)) := by omega
  have g2 : ¬ ((2147483647 : Int) < (on : Int)) := by omega
  have g3 : ¬ ((2147483647 : Int) < (fn : Int)) := by omega
  clear h
  have HRI := As.mk hr
  clear hr
  have g4 : ¬ ((on : Int) < 1) := by omega
  have g5 : (100 : Int) < (on : Int) := by omega
  have BH0 := As.mk ((Blk.new w 24 [.slice SA sn sc, .slice MA mn mc]).alloc (.cells #[.int .u8 i0, .int .u8 i1] 25))
  have C0 := As.mk (((Chg.refl NoB w).alloc (.cells #[.slice SA sn sc, .slice MA mn mc] 24)).alloc (.cells #[.int .u8 i0, .int .u8 i1] 25))
  go_enter Tryd.func3, Tryd.ntmps3
  go_wp2_with fail
  refine (fits_any SA sn sc MA mn mc _).mono ?_
  rintro e w1 ⟨he, hc1⟩
  obtain rfl : e = .returned (.bool true) := by rw [he]; simp; have := HPR.out; omega
  clear he
  have C1 := As.mk (C0.out.trans hc1 (fun _ _ e => e))
  have BH1 := As.mk (BH0.out.chg hc1 (fun e => e))
  have x0 := BH1.out.cell 0
  have x1 := BH1.out.cell 1
  simp only [List.getElem?_cons_zero, List.getElem?_cons_succ] at x0 x1
  clear hc1
  go_wp2_with fail
  refine (rightHash_any SA sn sc MA mn mc _).mono ?_
  rintro e w2 ⟨he, hc2⟩
  obtain rfl : e = .returned (.bool true) := by rw [he]; simp; have := HRI.out; omega
  clear he
  have C2 := As.mk (C1.out.trans hc2 (fun _ _ e => e))
  have BH2 := As.mk (BH1.out.chg hc2 (fun e => e))
  clear hc2 x0 x1
  have x0 := BH2.out.cell 0
  have x1 := BH2.out.cell 1
  simp only [List.getElem?_cons_zero, List.getElem?_cons_succ] at x0 x1
  go_wp2_with fail
  refine (brief_one ZA zn zc _ 1 22 w2 rfl).mono ?_
  rintro e w3' ⟨he, hw3⟩
  obtain rfl : e = .returned (.bool true) := by rw [he]; simp; omega
  clear he
  subst hw3
  have C3 := As.mk (C2.out.alloc (.cells #[.slice ZA zn zc] 22))
  go_wp2_with fail
  go_ret
  exact yes_of C3.out
set_option maxRecDepth 100000 in
set_option maxHeartbeats 1000000 in
theorem ecdh_f (SA : Option Addr) (sn sc : Nat) (MA : Option Addr) (mn mc : Nat) (i0 i1 sz : Int) (ZA : Option Addr) (zn zc : Nat) (OA : Option Addr) (on oc : Nat) (FA : Option Addr) (fn fc : Nat) (w : World) (h : sn ≤ 2147483647 ∧ mn ≤ 2147483647) (h2 : zn ≤ 2147483647) (h3 : on ≤ 2147483647) (h4 : fn ≤ 2147483647) (hr : sn = 256 ∧ 1 ≤ mn ∧ mn ≤ 64) (hz0 : 0 ≤ sz) (hz : sz ≤ (mn : Int)) (hb : zn ≤ 4096) (ho : 1 ≤ on) (ho2 : on ≤ 100) (hf : fn ≠ 20) :
    Calls Tryd.prog 3 #[.agg #[.slice SA sn sc, .slice MA mn mc], .agg #[.int .u8 i0, .int .u8 i1], .int .i64 sz, .slice ZA zn zc, .slice OA on oc, .slice FA fn fc] w (Yes w) := by
  have HPR := As.mk h
  have g1 : ¬ ((2147483647 : Int) < (zn : Int)) := by omega
  have g2 : ¬ ((2147483647 : Int) < (on : Int)) := by omega
  have g3 : ¬ ((2147483647 : Int) < (fn : Int)) := by omega
  clear h
  have HRI := As.mk hr
  clear hr
  have g4 : ¬ ((on : Int) < 1) := by omega
  have g5 : ¬ ((100 : Int) < (on : Int)) := by omega
  have g6 : ((fn : Int) != 20) = true := by simp; omega
  have BH0 := As.mk ((Blk.new w 24 [.slice SA sn sc, .slice MA mn mc]).alloc (.cells #[.int .u8 i0, .int .u8 i1] 25))
  have C0 := As.mk (((Chg.refl NoB w).alloc (.cells #[.slice SA sn sc, .slice MA mn mc] 24)).alloc (.cells #[.int .u8 i0, .int .u8 i1] 25))
  go_enter Tryd.func3, Tryd.ntmps3
  go_wp2_with fail
  refine (fits_any SA sn sc MA mn mc _).mono ?_
  rintro e w1 ⟨he, hc1⟩
  obtain rfl : e = .returned (.bool true) := by rw [he]; simp; have := HPR.out; omega
  clear he
  have C1 := As.mk (C0.out.trans hc1 (fun _ _ e => e))
  have BH1 := As.mk (BH0.out.chg hc1 (fun e => e))
  have x0 := BH1.out.cell 0
  have x1 := BH1.out.cell 1
  simp only [List.getElem?_cons_zero, List.getElem?_cons_succ] at x0 x1
  clear hc1
  go_wp2_with fail
  refine (rightHash_any SA sn sc MA mn mc _).mono ?_
  rintro e w2 ⟨he, hc2⟩
  obtain rfl : e = .returned (.bool true) := by rw [he]; simp; have := HRI.out; omega
  clear he
  have C2 := As.mk (C1.out.trans hc2 (fun _ _ e => e))
  have BH2 := As.mk (BH1.out.chg hc2 (fun e => e))
  clear hc2 x0 x1
  have x0 := BH2.out.cell 0
  have x1 := BH2.out.cell 1
  simp only [List.getElem?_cons_zero, List.getElem?_cons_succ] at x0 x1
  go_wp2_with fail
  refine (brief_one ZA zn zc _ 1 22 w2 rfl).mono ?_
  rintro e w3' ⟨he, hw3⟩
  obtain rfl : e = .returned (.bool true) := by rw [he]; simp; omega
  clear he
  subst hw3
  have C3 := As.mk (C2.out.alloc (.cells #[.slice ZA zn zc] 22))
  go_wp2_with fail
  go_ret
  exact yes_of C3.out
end Go.Proofs.YtdofkokeebgigaaDoor
