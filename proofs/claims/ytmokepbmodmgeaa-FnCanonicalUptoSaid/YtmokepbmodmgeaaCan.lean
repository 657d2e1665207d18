/- The walk of FnCanonical. -/
import Derived.Test.YtmokepbmodmgeaaCanSpec
import Derived.Test.YtmokepbmodmgeaaOnce
set_option linter.unusedVariables false
set_option linter.unusedSimpArgs false
namespace Go.Proofs.Ytmokepbmodmgeaa
open Go.RowKit V
set_option maxRecDepth 100000 in
set_option maxHeartbeats 1000000 in
theorem can_walk (A : Option Addr) (n c : Nat) (vs : List (Option Addr × Nat × Nat)) (xss : List (List Int)) (w : World) (hn : n = vs.length) (hr : Rss w A vs xss) (hb : Byt xss.flatten) (hl : xss.flatten.length ≤ 140737488351232) :
    Calls Try.prog 5 #[.slice A n c] w (Yes w) := by
  have HF := As.mk (fits2_any A n c vs w hn hr.1)
  have HJ := As.mk (joined_any A n c vs xss w hn hr hl)
  have HT := As.mk (fun (A' : Option Addr) (m c' : Nat) (w' : World) (hm : m = xss.flatten.length) (hx : Rb w' A' xss.flatten) => twoReturns_any A' m c' xss.flatten w' hm hx hb)
  have HC := As.mk (fun (A' : Option Addr) (m c' : Nat) (w' : World) (hm : m = xss.flatten.length) (hx : Rb w' A' xss.flatten) (h4 : m ≤ 4096) => canonical_any A' m c' xss.flatten w' hm hx hb h4)
  have HI := As.mk (fun (w' : World) (hc : Chg NoB w w') (h4 : xss.flatten.length ≤ 4096) => canonicalText_any A n c vs xss w' hn (hr.keep hc) h4)
  clear hn hr hb hl
  go_enter Try.func5, Try.ntmps5
  go_wp2_with fail
  refine HF.out.mono ?_
  rintro e w0 ⟨b, rfl, rfl, _⟩
  cases b
  · go_wp2_with fail
    go_ret
    exact yes_of (Chg.refl _ _)
  go_wp2_with fail
  refine HJ.out.mono ?_
  rintro e w1 ⟨v1, rfl, ho1, hc1⟩
  obtain ⟨A1, c1, hv1, _, hr1⟩ := ow_form (ow_of ho1)
  generalize hm : xss.flatten.length = m at hv1
  subst hv1
  have HM := As.mk hm
  have C1 := As.mk hc1
  have R1 := As.mk hr1
  clear hm ho1 hc1 hr1
  by_cases hbig : m ≤ 4096
  · have hb2 : ¬ (4096 : Int) < (m : Int) := by omega
    go_wp2_with fail
    refine (HT.out A1 m c1 _ HM.out.symm R1.out).mono ?_
    rintro e w2 ⟨b, rfl, rfl, hno⟩
    cases b
    · have HEQ := As.mk (can_eq (hno rfl))
      clear hno
      go_wp2_with fail
      refine (HI.out _ C1.out (by rw [HM.out]; exact hbig)).mono ?_
      rintro e w3 ⟨v3, rfl, ho3, hc3⟩
      obtain ⟨A3, c3, hv3, _, hr3⟩ := ow_form (ow_of ho3)
      subst hv3
      have C3 := As.mk (C1.out.trans hc3 (fun _ _ e => e))
      have R13 := As.mk (R1.out.keep hc3)
      have R3 := As.mk hr3
      clear ho3 hc3 hr3
      rw [HEQ.out] at R3 ⊢
      go_wp2_with fail
      refine (HC.out A1 m c1 _ HM.out.symm R13.out hbig).mono ?_
      rintro e w4 ⟨v4, rfl, ho4, hc4⟩
      obtain ⟨A4, c4, hv4, _, hr4⟩ := ow_form ho4
      subst hv4
      have C4 := As.mk (C3.out.trans hc4 (fun _ _ e => e))
      have R34 := As.mk (R3.out.keep hc4)
      have R4 := As.mk hr4
      clear ho4 hc4 hr4
      obtain ⟨L, hL⟩ : ∃ L, L = (canP 0 xss.flatten).length := ⟨_, rfl⟩
      have HL := As.mk hL
      rw [← hL]
      clear hL
      go_wp2_with fail
      refine (same_yes A3 L c3 (canP 0 xss.flatten) A4 L c4 _ HL.out HL.out R34.out R4.out).mono ?_
      rintro e w6 ⟨rfl, nn, rfl⟩
      go_wp2_with fail
      go_ret
      exact yes_of (C4.out.drewN nn)
    · clear hno
      go_wp2_with fail
      go_ret
      exact yes_of C1.out
  · have hb2 : (4096 : Int) < (m : Int) := by omega
    go_wp2_with fail
    go_ret
    exact yes_of C1.out
end Go.Proofs.Ytmokepbmodmgeaa
