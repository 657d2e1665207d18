/- The good way of FnEcdhKey. -/
import Derived.Test.YtdofkokeebgigaaDoorEcdhP
import Derived.Test.YtdofkokeebgigaaDoorBrief
set_option linter.unusedVariables false
set_option linter.unusedSimpArgs false
namespace Go.Proofs.YtdofkokeebgigaaDoor
open Go.RowKit V
set_option maxRecDepth 100000 in
set_option maxHeartbeats 1000000 in
theorem mixer_any (SA : Option Addr) (sn sc : Nat) (MA : Option Addr) (mn mc : Nat) (w : World) :
    Calls Tryd.prog 10 #[.agg #[.slice SA sn sc, .slice MA mn mc]] w fun e w' => e = .returned (.iface 48 (.agg #[.slice SA sn sc, .slice MA mn mc])) ∧ Chg NoB w w' := by
  have B0 := As.mk (Blk.new w 24 [.slice SA sn sc, .slice MA mn mc])
  have C0 := As.mk ((Chg.refl NoB w).alloc (.cells #[.slice SA sn sc, .slice MA mn mc] 24))
  go_enter Tryd.func10, Tryd.ntmps10
  go_wp2_with fail
  go_ret
  refine ⟨rfl, ?_⟩
  repeat (first | exact Chg.refl _ _ | (with_reducible apply Chg.drew) | (with_reducible apply Chg.alloc))
def Yes (W : World) (e : Ending) (w' : World) : Prop := e = .returned (.bool true) ∧ Below W.heap.size W w'
theorem yes_of {W w' : World} (h : Chg NoB W w') : Yes W (.returned (.bool true)) w' := ⟨rfl, h.below (Nat.le_refl _) (fun _ _ e => e)⟩
set_option maxRecDepth 100000 in
set_option maxHeartbeats 4000000 in
theorem ecdh_good (SA : Option Addr) (sc : Nat) (MA : Option Addr) (n mc : Nat) (sub mask : List Int) (i0 i1 : Int) (ks : Nat) (ZA : Option Addr) (zn zc : Nat) (zb : List Int) (OA : Option Addr) (on oc : Nat) (oid : List Int) (FA : Option Addr) (fc : Nat) (pr : List Int) (w : World)
    (hs : sub.length = 256) (hm : mask.length = n) (n1 : 1 ≤ n) (n2 : n ≤ 64) (rs : Rb w SA sub) (rm : Rb w MA mask) (bs : Byt sub) (bm : Byt mask) (b0 : IsB i0) (b1 : IsB i1) (hks : ks ≤ n)
    (rz : Rb w ZA zb) (hzn : zn = zb.length) (hzc : zn ≤ zc) (bz : Byt zb) (hz4 : zn ≤ 4096) (ro : Rb w OA oid) (hon : on = oid.length) (ho1 : 1 ≤ on) (ho2 : on ≤ 100) (bo : Byt oid) (rf : Rb w FA pr) (hfn : 20 = pr.length) (hfc : 20 ≤ fc) (bf : Byt pr) :
    Calls Tryd.prog 3 #[.agg #[.slice SA 256 sc, .slice MA n mc], .agg #[.int .u8 i0, .int .u8 i1], .int .i64 ks, .slice ZA zn zc, .slice OA on oc, .slice FA 20 fc] w (Yes w) := by
  have HPB := As.mk (show Byt (paramL ((on : Int) :: oid) i0 i1 pr) from (((Byt.append (xs := [(on : Int)]) (by intro x hx; rw [List.mem_singleton] at hx; subst hx; exact ⟨by omega, by omega⟩) bo).append (by intro x hx; simp at hx; rcases hx with rfl | rfl | rfl | rfl | rfl; exact ⟨by decide, by decide⟩; exact ⟨by decide, by decide⟩; exact ⟨by decide, by decide⟩; exact b0; exact b1)).append (by intro x hx; simp only [anon] at hx; revert x; decide)).append bf)
  have HPL := As.mk (show (paramL ((on : Int) :: oid) i0 i1 pr).length ≤ 200 from by unfold paramL anon; simp only [List.length_append, List.length_cons, List.length_nil]; omega)
  have HI := As.mk (fun A m c w' (hc : Chg NoB w w') (hr : Rb w' A ((on : Int) :: oid)) (hml : m = ((on : Int) :: oid).length) => implEcdh_any i0 i1 ks SA sc MA n mc sub mask ZA zn zc zb A m c ((on : Int) :: oid) FA 20 fc pr w' hs hm n1 n2 (rs.keep hc) (rm.keep hc) bs bm (rz.keep hc) hzn hzc bz hr hml (by rw [hml]; simp) (by rw [hml, List.length_cons]; omega) (Byt.append (xs := [(on : Int)]) (by intro x hx; rw [List.mem_singleton] at hx; subst hx; exact ⟨by omega, by omega⟩) bo) (rf.keep hc) hfn rfl hfc bf b0 b1 hks)
  have HKP := As.mk (fun w' (hc : Chg NoB w w') => keyParam_any i0 i1 OA on oc oid FA 20 fc pr w' (ro.keep hc) hon ho2 (rf.keep hc) hfn (by omega))
  have HKD := As.mk (fun A m c w' (hc : Chg NoB w w') (hr : Rb w' A (paramL ((on : Int) :: oid) i0 i1 pr)) (hml : m = (paramL ((on : Int) :: oid) i0 i1 pr).length) => keyDerived_any SA sc MA n mc sub mask ks ZA zn zc zb A m c (paramL ((on : Int) :: oid) i0 i1 pr) w' hs hm n1 n2 (rs.keep hc) (rm.keep hc) bs bm (rz.keep hc) hzn (by omega) bz hr hml (by have := HPL.out; omega) HPB.out hks)
  have RO := As.mk ro
  have HL := As.mk hon
  have hnk : ¬ ((n : Int) < (ks : Int)) := by omega
  have how : IntKind.u8.wrap (on : Int) = (on : Int) := by simp [IntKind.wrap, IntKind.bits, IntKind.signed]; omega
  have ho1i : ¬ ((on : Int) < 1) := by omega
  have ho2i : ¬ ((100 : Int) < (on : Int)) := by omega
  have ho3i : ¬ ((2147483647 : Int) < (on : Int)) := by omega
  have hz3i : ¬ ((2147483647 : Int) < (zn : Int)) := by omega
  have BH := As.mk (Blk.new w 24 [.slice SA 256 sc, .slice MA n mc])
  have C0 := As.mk (((Chg.refl NoB w).alloc (.cells #[.slice SA 256 sc, .slice MA n mc] 24)).alloc (.cells #[.int .u8 i0, .int .u8 i1] 25))
  have BI := As.mk (Blk.new (w.alloc (.cells #[.slice SA 256 sc, .slice MA n mc] 24)) 25 [.int .u8 i0, .int .u8 i1])
  rw [show (w.alloc (.cells #[.slice SA 256 sc, .slice MA n mc] 24)).heap.size = w.heap.size + 1 from Array.size_push _] at BI
  have BH0 := As.mk (BH.out.alloc (.cells #[.int .u8 i0, .int .u8 i1] 25))
  clear hs hm rs rm bs bm b0 b1 rz hzn bz ro hon bo rf hfn bf BH
  go_enter Tryd.func3, Tryd.ntmps3
  go_wp2_with fail
  refine (fits_any SA 256 sc MA n mc _).mono ?_
  rintro e w1 ⟨he, hc1⟩
  obtain rfl : e = .returned (.bool true) := by rw [he]; simp; omega
  clear he
  have C1 := As.mk (C0.out.trans hc1 (fun _ _ e => e))
  have BH1 := As.mk (BH0.out.chg hc1 (fun e => e))
  have BI1 := As.mk (BI.out.chg hc1 (fun e => e))
  have x0 := BH1.out.cell 0
  have x1 := BH1.out.cell 1
  simp only [List.getElem?_cons_zero, List.getElem?_cons_succ] at x0 x1
  clear hc1
  go_wp2_with fail
  refine (rightHash_any SA 256 sc MA n mc _).mono ?_
  rintro e w2 ⟨he, hc2⟩
  obtain rfl : e = .returned (.bool true) := by rw [he]; simp; omega
  clear he
  have C2 := As.mk (C1.out.trans hc2 (fun _ _ e => e))
  have BH2 := As.mk (BH1.out.chg hc2 (fun e => e))
  have BI2 := As.mk (BI1.out.chg hc2 (fun e => e))
  clear hc2 x0 x1
  have x0 := BH2.out.cell 0
  have x1 := BH2.out.cell 1
  simp only [List.getElem?_cons_zero, List.getElem?_cons_succ] at x0 x1
  go_wp2_with fail
  refine (brief_one ZA zn zc _ 1 22 w2 rfl).mono ?_
  rintro e w3' ⟨he, hw3⟩
  obtain rfl : e = .returned (.bool true) := by rw [he]; simp; omega
  clear he
  subst hw3
  obtain ⟨w3, hw3⟩ : ∃ w3, w3 = w2.alloc (.cells #[.slice ZA zn zc] 22) := ⟨_, rfl⟩
  have C3 : As (Chg NoB w w3) := ⟨by rw [hw3]; exact C2.out.alloc _⟩
  have KQ : As (∀ w', Chg NoB w3 w' → (w'.cell? ⟨w.heap.size, 0, none⟩ = some (.slice SA 256 sc) ∧ w'.cell? ⟨w.heap.size, 1, none⟩ = some (.slice MA n mc)) ∧ (w'.cell? ⟨w.heap.size + 1, 0, none⟩ = some (.int .u8 i0) ∧ w'.cell? ⟨w.heap.size + 1, 1, none⟩ = some (.int .u8 i1))) := ⟨fun w' h => by
    have h3 : Chg NoB w2 w' := by rw [hw3] at h; exact ((Chg.refl NoB w2).alloc _).trans h (fun _ _ e => e)
    have b := BH2.out.chg h3 (fun e => e)
    have b' := BI2.out.chg h3 (fun e => e)
    exact ⟨⟨b.cell 0, b.cell 1⟩, b'.cell 0, b'.cell 1⟩⟩
  rw [← hw3]
  clear hw3 x0 x1
  have hal : Chg NoB w3 (w3.alloc (.cells #[.int .u8 on] 5)) := (Chg.refl NoB w3).alloc _
  go_wp2_with ((with_reducible refine gate (N := 74) rfl ?_); refine wpList_append_ow rfl _ _ 22 rfl 5 .u8 1 Tryd.underlying22 info8 (by decide) _ w.heap.size [(on : Int)] oid OA on oc rfl rfl HL.out (ow_of (own_lit w3 w.heap.size 5 .u8 [(on : Int)] C3.out.size (by simp [maxLen]))) (RO.out.keep (C3.out.trans hal (fun _ _ e => e))) (Nat.le_trans C3.out.size hal.size) (by have := HL.out; simp only [List.length_cons, List.length_nil]; omega) ?_; intro v4 w4 ho4 hc4; obtain ⟨A4, c4, hv4, _, hr4⟩ := ow_form ho4; obtain ⟨m4, hm4⟩ : ∃ m4, m4 = ([(on : Int)] ++ oid).length := ⟨_, rfl⟩; rw [← hm4] at hv4; subst hv4; have HM4 := As.mk hm4; have R4 := As.mk hr4; have D4 : As (Chg NoB w3 w4) := ⟨hal.trans hc4 (fun b hb e => by have := e.1; have h3 := C3.out.size; have hne := e.2; exact absurd hb (by rw [show b = w3.heap.size from (Option.some.inj hne).symm]; exact Nat.lt_irrefl _))⟩; have hq := KQ.out _ D4.out; have y0 := hq.1.1; have y1 := hq.1.2; have y2 := hq.2.1; have y3 := hq.2.2; clear ho4 hc4 hr4 hm4 hq)
  have C4 := As.mk (C3.out.trans D4.out (fun _ _ e => e))
  refine (HI.out A4 m4 c4 _ C4.out R4.out HM4.out).mono ?_
  rintro e w5 ⟨hc5, A5, c5, rfl, hr5, hl5⟩
  have D5 := As.mk (D4.out.trans hc5 (fun _ _ e => e))
  have R5 := As.mk hr5
  have HXL := As.mk hl5
  clear hc5 hr5 hl5 y0 y1 y2 y3
  have hq := KQ.out _ D5.out
  have y0 := hq.1.1
  have y1 := hq.1.2
  have y2 := hq.2.1
  have y3 := hq.2.2
  clear hq
  go_upto_region 7 with fail
  obtain ⟨par, hpar⟩ : ∃ par, par = paramL ((on : Int) :: oid) i0 i1 pr := ⟨_, rfl⟩
  have HB : As (Chg NoB w5 w5) := ⟨Chg.refl _ _⟩
  have C5 := As.mk (C3.out.trans D5.out (fun _ _ e => e))
  go_region_held3 (fun w' => (w'.cell? ⟨w.heap.size, 0, none⟩ = some (.slice SA 256 sc) ∧ w'.cell? ⟨w.heap.size, 1, none⟩ = some (.slice MA n mc)) ∧ (w'.cell? ⟨w.heap.size + 1, 0, none⟩ = some (.int .u8 i0) ∧ w'.cell? ⟨w.heap.size + 1, 1, none⟩ = some (.int .u8 i1))) (exact KQ.out _ (D5.out.trans (by repeat (first | (with_reducible exact HB.out) | (with_reducible apply Chg.drew) | (with_reducible apply Chg.drewN) | (with_reducible apply Chg.alloc))) (fun _ _ e => e))) (first
    | (go_simp
       refine (mixer_any SA 256 sc MA n mc _).mono ?_
       rintro e w6 ⟨rfl, hc6⟩
       have HB6 : As (Chg NoB w5 w6) := ⟨Chg.trans (by repeat (first | (with_reducible exact HB.out) | (with_reducible apply Chg.drew) | (with_reducible apply Chg.alloc))) hc6 (fun _ _ e => e)⟩
       first
         | (have HRK6 := As.mk (HRK.out.keep ((Chg.refl NoB _).trans (Chg.trans (S' := NoB) (by repeat (first | exact Chg.refl _ _ | (with_reducible apply Chg.drew) | (with_reducible apply Chg.alloc))) hc6 (fun _ _ e => e)) (fun _ _ e => e)))
            clear HRK
            have HRK := HRK6
            clear HRK6)
         | skip
       clear HB hc6
       have HB := HB6
       clear HB6)
    | (go_simp
       refine (HKP.out _ (C5.out.trans ?c1 (fun _ _ e => e))).mono ?_
       case c1 => exact (by repeat (first | (with_reducible exact HB.out) | (with_reducible apply Chg.drew) | (with_reducible apply Chg.alloc)))
       rintro e w7 ⟨⟨A7, m7, c7, rfl, hm7, hr7⟩, hc7⟩
       have HM7 := As.mk hm7
       have HRK := As.mk hr7
       have HB7 : As (Chg NoB w5 w7) := ⟨Chg.trans (by repeat (first | (with_reducible exact HB.out) | (with_reducible apply Chg.drew) | (with_reducible apply Chg.alloc))) hc7 (fun _ _ e => e)⟩
       clear HB hc7 hm7 hr7
       have HB := HB7
       clear HB7)
    | (go_simp
       refine (HKD.out A7 m7 c7 _ (C5.out.trans ?c1 (fun _ _ e => e)) (HRK.out.keep ?c2) HM7.out).mono ?_
       case c1 => exact (by repeat (first | (with_reducible exact HB.out) | (with_reducible apply Chg.drew) | (with_reducible apply Chg.alloc)))
       case c2 => exact (by repeat (first | exact Chg.refl _ _ | (with_reducible apply Chg.drew) | (with_reducible apply Chg.alloc)))
       rintro e w8 ⟨⟨A8, c8, rfl, hr8⟩, hc8⟩
       have HR8 := As.mk hr8
       have HB8 : As (Chg NoB w5 w8) := ⟨Chg.trans (by repeat (first | (with_reducible exact HB.out) | (with_reducible apply Chg.drew) | (with_reducible apply Chg.alloc))) hc8 (fun _ _ e => e)⟩
       clear HB hc8 hr8
       have HB := HB8
       clear HB8)
    | (go_simp
       refine (same_yes A5 ks c5 ((keyL sub n mask zb (paramL ((on : Int) :: oid) i0 i1 pr)).take ks) A8 ks c8 _ HXL.out.symm HXL.out.symm (R5.out.keep ?c1) (HR8.out.keep ?c2)).mono ?_
       case c1 => exact (by repeat (first | (with_reducible exact HB.out) | (with_reducible apply Chg.drew) | (with_reducible apply Chg.alloc)))
       case c2 => exact (by repeat (first | exact Chg.refl _ _ | (with_reducible apply Chg.drew) | (with_reducible apply Chg.alloc)))
       rintro e w9 ⟨rfl, nn, rfl⟩))
  all_goals
    go_wp2_with fail
    go_ret
    refine yes_of (C5.out.trans ?_ (fun _ _ e => e))
    repeat (first | (with_reducible exact HB.out) | (with_reducible apply Chg.drewN) | (with_reducible apply Chg.drew) | (with_reducible apply Chg.alloc))
end Go.Proofs.YtdofkokeebgigaaDoor
