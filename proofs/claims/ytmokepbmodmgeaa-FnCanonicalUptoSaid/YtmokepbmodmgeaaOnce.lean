/- The contract of impl.S2kIterated, where the count is at most the length of both; the walk of FnS2kOnce. -/
import Derived.Test.YtmokepbmodmgeaaIter
import Derived.Test.YtmokepbmodmgeaaBrief
set_option linter.unusedVariables false
set_option linter.unusedSimpArgs false
namespace Go.Proofs.Ytmokepbmodmgeaa
open Go.RowKit V
set_option maxRecDepth 100000 in
set_option maxHeartbeats 2000000 in
theorem implIter_any (SA : Option Addr) (sc : Nat) (MA : Option Addr) (n mc : Nat) (sub mask pass salt : List Int) (size : Nat) (PA : Option Addr) (pn pc : Nat) (TA : Option Addr) (tn tc : Nat) (w : World)
    (hs : sub.length = 256) (hm : mask.length = n) (n1 : 1 ≤ n) (n2 : n ≤ 64) (rs : Rb w SA sub) (rm : Rb w MA mask) (bs : Byt sub) (bm : Byt mask)
    (rp : Rb w PA pass) (rt : Rb w TA salt) (hpn : pn = pass.length) (htn : tn = salt.length) (bp : Byt pass) (bt : Byt salt) (hsz : size ≤ 65536) (L cnt : Nat) (hL : L = pn + tn) (hLp : 1 ≤ L) (hL2 : L ≤ 1048576) (hcnt : cnt ≤ L) :
    Calls Try.prog 9 #[.agg #[.slice SA 256 sc, .slice MA n mc], .int .i64 size, .slice PA pn pc, .slice TA tn tc, .int .i64 cnt] w (ImplS w (stretch sub n mask (salt ++ pass) size) size) := by
  have H1 := As.mk (And.intro hs (And.intro hm (And.intro bs bm)))
  have H2 := As.mk (And.intro rs rm)
  have H3 := As.mk (And.intro hpn (And.intro htn (And.intro bp bt)))
  have RP := As.mk (Rf.of rp (Nat.le_refl _))
  have RT := As.mk (Rf.of rt (Nat.le_refl _))
  have hsz2 : ¬ ((65536 : Int) < (size : Int)) := by omega
  have hsz3 : (size : Int) ≤ 65536 := by omega
  have HLL := As.mk hL
  have hsum : (pn : Int) + (tn : Int) = (L : Int) := by omega
  have hLb : ((L : Int) == 0) = false := by simp; omega
  have hLi : (L : Int) ≤ 1048576 := by omega
  have hcn2 : ¬ ((1048576 : Int) < (cnt : Int)) := by omega
  have hcn3 : (cnt : Int) ≤ 1048576 := by omega
  have hp2 : (pn : Int) ≤ 1048576 := by omega
  have ht2 : (tn : Int) ≤ 1048576 := by omega
  clear hL
  clear hs hm rs rm bs bm rp rt hpn htn bp bt
  have B0 := As.mk (Blk.new w 24 [.slice SA 256 sc, .slice MA n mc])
  have C0 := As.mk ((Chg.refl NoB w).alloc (.cells #[.slice SA 256 sc, .slice MA n mc] 24))
  go_enter Try.func9, Try.ntmps9
  go_wp2_with fail
  refine (right_yes SA sc MA n mc _ n1 n2).mono ?_
  rintro e w1 ⟨rfl, hc1⟩
  have C1 := As.mk (C0.out.trans hc1 (fun _ _ e => e))
  have b1 := B0.out.chg hc1 (fun e => e)
  have B1 := As.mk b1
  have hw1 : w.heap.size ≤ w1.heap.size := C1.out.size
  clear hc1 b1
  go_wp2_with ((with_reducible refine gate (N := 37) rfl ?_); refine wpList_make_k rfl _ 22 rfl 5 .u8 1 Try.underlying22 info8 (by decide) size _ rfl rfl (by omega) ?_; intro w2 g HG ho2 hc2 hz2; have b2 := B1.out.chg hc2 (fun e => e); have x0 := b2.cell 0; have x1 := b2.cell 1; simp only [List.getElem?_cons_zero, List.getElem?_cons_succ] at x0 x1; have B2 := As.mk b2; have HO2 := As.mk ho2; have C2 := As.mk (C1.out.trans hc2 (fun _ _ e => e)); have HZ2 := As.mk hz2; have hgb := (own_blocks ho2); have HGB := As.mk hgb; clear hgb ho2 hc2 hz2 b2)
  refine (digestOf_any SA sc MA n mc sub mask _ H1.out.1 H1.out.2.1 n1 n2 (H2.out.1.keep C2.out) (H2.out.2.keep C2.out) H1.out.2.2.1 H1.out.2.2.2).mono ?_
  rintro e w3 ⟨hc3, D0, D1, d, SA', sc', MA', mc', rfl, hd0, hd1, hdw⟩
  have C3 := As.mk (C2.out.trans hc3 (fun _ _ e => e))
  have HO3 := As.mk (own_keep HO2.out hc3)
  have HS := As.mk (iterLoop w1.heap.size D0 0 d g size n SA' sc' MA' mc' sub mask pass salt size PA pn pc TA tn tc D1 cnt L w3 hdw hd1 HO3.out (by have := HGB.out.2; omega) hsz (Nat.le_refl _)
    ((RP.out.keep C3.out).mono (fun b _ hb => by have := HGB.out.1; omega)) ((RT.out.keep C3.out).mono (fun b _ hb => by have := HGB.out.1; omega)) H3.out.1 H3.out.2.1 H3.out.2.2.1 H3.out.2.2.2 HLL.out hLp hL2 hcnt)
  have HGD := As.mk (And.intro HGB.out.1 (And.intro hdw.1.dge (And.intro hd0 hdw.1.dlt)))
  have hd1' := Nat.le_trans hd1 (Nat.le_refl _)
  have HW3 := As.mk hc3.size
  have hw2 : w1.heap.size ≤ w2.heap.size := by have := HZ2.out; omega
  clear hc3 hdw hd0 hd1 hd1' x0 x1
  go_wp2_with fail
  refine HS.out.mono ?_
  rintro e w4 ⟨rfl, ho4, hc4⟩
  have HO4 := As.mk (own_reads ho4)
  have C4 : As (Chg NoB w w4) := ⟨C3.out.trans hc4 (fun b hb e => by have := HGD.out; have := HW3.out; omega)⟩
  clear ho4 hc4
  go_wp2_with fail
  go_ret2
  exact ⟨C4.out, g, size, rfl, HO4.out⟩
theorem Rs.two (w : World) (t : TypeId) (A : Option Addr) (n c : Nat) (B : Option Addr) (m d : Nat) : Rs (w.alloc (.cells #[.slice A n c, .slice B m d] t)) (some ⟨w.heap.size, 0, none⟩) [(A, n, c), (B, m, d)] :=
  ⟨by simp, fun _ => ⟨_, rfl, by simp, fun j hj => by
    have h0 : j = 0 ∨ j = 1 := by simp at hj; omega
    rcases h0 with rfl | rfl
    · rw [add_lit0]; exact (Blk.new w t [.slice A n c, .slice B m d]).cell 0
    · rw [add_lit0]; exact (Blk.new w t [.slice A n c, .slice B m d]).cell 1⟩⟩
theorem brief_two (A : Option Addr) (n c : Nat) (B : Option Addr) (m d : Nat) (t : TypeId) (w : World) :
    Calls Try.prog 8 #[.slice (some ⟨w.heap.size, 0, none⟩) 2 2] (w.alloc (.cells #[.slice A n c, .slice B m d] t)) fun e w' => e = .returned (.bool (decide (n ≤ 4096 ∧ m ≤ 4096))) ∧ w' = w.alloc (.cells #[.slice A n c, .slice B m d] t) := by
  refine (brief_any _ 2 2 [(A, n, c), (B, m, d)] _ rfl (Rs.two w t A n c B m d)).mono fun e w' ⟨he, hw⟩ => ⟨?_, hw⟩
  rw [he]
  simp
def Yes (W : World) (e : Ending) (w' : World) : Prop := e = .returned (.bool true) ∧ Below W.heap.size W w'
theorem yes_of {W w' : World} (h : Chg NoB W w') : Yes W (.returned (.bool true)) w' := ⟨rfl, h.below (Nat.le_refl _) (fun _ _ e => e)⟩
set_option maxRecDepth 100000 in
set_option maxHeartbeats 2000000 in
theorem once_good (SA : Option Addr) (sc : Nat) (MA : Option Addr) (n mc : Nat) (sub mask pass salt : List Int) (size : Nat) (PA : Option Addr) (pn pc : Nat) (TA : Option Addr) (tn tc : Nat) (cnt : Nat) (w : World)
    (hs : sub.length = 256) (hm : mask.length = n) (n1 : 1 ≤ n) (n2 : n ≤ 64) (rs : Rb w SA sub) (rm : Rb w MA mask) (bs : Byt sub) (bm : Byt mask)
    (rp : Rb w PA pass) (rt : Rb w TA salt) (hpn : pn = pass.length) (htn : tn = salt.length) (bp : Byt pass) (bt : Byt salt) (hsz : size ≤ 600) (hp4 : pn ≤ 4096) (ht4 : tn ≤ 4096) (hL : 1 ≤ pn + tn) (hcnt : cnt ≤ pn + tn) :
    Calls Try.prog 3 #[.agg #[.slice SA 256 sc, .slice MA n mc], .int .i64 size, .slice PA pn pc, .slice TA tn tc, .int .i64 cnt] w (Yes w) := by
  have HA := As.mk (fun w' (hc : Chg NoB w w') => implIter_any SA sc MA n mc sub mask pass salt size PA pn pc TA tn tc w' hs hm n1 n2 (rs.keep hc) (rm.keep hc) bs bm (rp.keep hc) (rt.keep hc) hpn htn bp bt (by omega) (pn + tn) cnt rfl hL (by omega) hcnt)
  have HB := As.mk (fun w' (hc : Chg NoB w w') => implSalted_any SA sc MA n mc sub mask pass salt size PA pn pc TA tn tc w' hs hm n1 n2 (rs.keep hc) (rm.keep hc) bs bm (rp.keep hc) (rt.keep hc) hpn htn bp bt (by omega))
  have HXL : As ((stretch sub n mask (salt ++ pass) size).length = size) := ⟨by
    unfold stretch
    rw [List.length_take, strm_length bs bm hm n1]
    exact Nat.min_eq_left (Nat.le_mul_of_pos_right _ n1)⟩
  generalize stretch sub n mask (salt ++ pass) size = out at *
  obtain ⟨L, hLd⟩ : ∃ L, L = pn + tn := ⟨_, rfl⟩
  have hsum : (pn : Int) + (tn : Int) = (L : Int) := by omega
  have hLb : ((L : Int) == 0) = false := by simp; omega
  have hcl : ¬ ((L : Int) < (cnt : Int)) := by omega
  have hsz2 : ¬ ((600 : Int) < (size : Int)) := by omega
  have hb4 : decide (pn ≤ 4096 ∧ tn ≤ 4096) = true := decide_eq_true ⟨hp4, ht4⟩
  have hf4 : decide ((256 : Nat) ≤ 2147483647 ∧ n ≤ 2147483647) = true := decide_eq_true ⟨by omega, by omega⟩
  have hr4 : decide ((256 : Nat) = 256 ∧ 1 ≤ n ∧ n ≤ 64) = true := decide_eq_true ⟨rfl, n1, n2⟩
  have hpi : (pn : Int) ≤ 4096 := by omega
  have hti : (tn : Int) ≤ 4096 := by omega
  have B0 := As.mk (Blk.new w 24 [.slice SA 256 sc, .slice MA n mc])
  have C0 := As.mk ((Chg.refl NoB w).alloc (.cells #[.slice SA 256 sc, .slice MA n mc] 24))
  have HR4 := As.mk hr4
  have HF4 := As.mk hf4
  have HB4 := As.mk hb4
  clear hs hm rs rm bs bm rp rt hpn htn bp bt hLd hb4 hf4 hr4
  go_enter Try.func3, Try.ntmps3
  go_wp2_with fail
  refine (fits_any SA 256 sc MA n mc _).mono ?_
  rintro e w1 ⟨he, hc1⟩
  obtain rfl : e = .returned (.bool true) := by rw [he]; simp; omega
  clear he
  have C1 := As.mk (C0.out.trans hc1 (fun _ _ e => e))
  have b1 := B0.out.chg hc1 (fun e => e)
  have x0 := b1.cell 0
  have x1 := b1.cell 1
  simp only [List.getElem?_cons_zero, List.getElem?_cons_succ] at x0 x1
  have B1 := As.mk b1
  clear hc1 b1
  go_wp2_with fail
  refine (rightHash_any SA 256 sc MA n mc _).mono ?_
  rintro e w2 ⟨he, hc2⟩
  obtain rfl : e = .returned (.bool true) := by rw [he]; simp; omega
  clear he
  have C2 := As.mk (C1.out.trans hc2 (fun _ _ e => e))
  have B2 := As.mk (B1.out.chg hc2 (fun e => e))
  clear hc2 x0 x1
  go_wp2_with fail
  refine (brief_two PA pn pc TA tn tc 22 w2).mono ?_
  rintro e w3' ⟨he, hw3⟩
  obtain rfl : e = .returned (.bool true) := by rw [he]; simp; omega
  clear he
  subst hw3
  obtain ⟨w3, hw3⟩ : ∃ w3, w3 = w2.alloc (.cells #[.slice PA pn pc, .slice TA tn tc] 22) := ⟨_, rfl⟩
  have C3 : As (Chg NoB w w3) := ⟨by rw [hw3]; exact C2.out.alloc _⟩
  have b3 : Blk w3 w.heap.size 24 [.slice SA 256 sc, .slice MA n mc] := by rw [hw3]; exact B2.out.alloc _
  rw [← hw3]
  have x0 := b3.cell 0
  have x1 := b3.cell 1
  simp only [List.getElem?_cons_zero, List.getElem?_cons_succ] at x0 x1
  have B3 := As.mk b3
  clear hw3 b3
  go_wp2_with fail
  refine (HA.out _ C3.out).mono ?_
  rintro e w4 ⟨hc4, g4, c4, rfl, hr4⟩
  have C4 := As.mk (C3.out.trans hc4 (fun _ _ e => e))
  have b4 := B3.out.chg hc4 (fun e => e)
  have R4 := As.mk hr4
  clear x0 x1
  have x0 := b4.cell 0
  have x1 := b4.cell 1
  simp only [List.getElem?_cons_zero, List.getElem?_cons_succ] at x0 x1
  clear hc4 hr4 b4
  go_wp2_with fail
  refine (HB.out _ C4.out).mono ?_
  rintro e w5 ⟨hc5, g5, c5, rfl, hr5⟩
  have C5 := As.mk (C4.out.trans hc5 (fun _ _ e => e))
  have R5 := As.mk hr5
  have R45 := As.mk (R4.out.keep hc5)
  clear hc5 hr5 x0 x1
  go_wp2_with fail
  refine (same_yes (some ⟨g4, 0, none⟩) size c4 out (some ⟨g5, 0, none⟩) size c5 _ HXL.out.symm HXL.out.symm R45.out R5.out).mono ?_
  rintro e w6 ⟨rfl, nn, rfl⟩
  go_wp2_with fail
  go_ret
  exact yes_of (C5.out.drewN nn)
end Go.Proofs.Ytmokepbmodmgeaa
