/- The walk of FnDashHashed. -/
import Derived.Test.YtphnjfbaioblbaaDoorDashE
import Derived.Test.YtphnjfbaioblbaaDoorSigned
import Derived.Test.YtphnjfbaioblbaaDoorTotal
set_option linter.unusedVariables false
set_option linter.unusedSimpArgs false
namespace Go.Proofs.YtphnjfbaioblbaaDoor
open Go.RowKit V
theorem sum_flat {w : World} {A : Option Addr} {vs : List Sl} {xss : List (List Int)} (h : Rrs w A vs xss) : sumL vs = xss.flatten.length := by
  have h1 : vs.map (·.2.1) = xss.map List.length := by
    apply List.ext_getElem
    · simp [h.2.1]
    · intro i h1 h2
      simp only [List.getElem_map]
      exact (h.2.2 i (by simpa using h1) (by simpa using h2)).1
  unfold sumL
  rw [h1, List.length_flatten]
set_option maxRecDepth 100000 in
set_option maxHeartbeats 4000000 in
theorem fnDash_walk (A : Option Addr) (tn tc : Nat) (vs : List Sl) (xss : List (List Int)) (W : World) (htn : tn = vs.length) (hrr : Rrs W A vs xss) (hby : Byt xss.flatten) :
    Calls Tryd.prog 3 #[.slice A tn tc] W fun e w' => e = .returned (.bool true) ∧ Below W.heap.size W w' := by
  have HR := As.mk hrr
  have HN := As.mk htn
  have HS := As.mk (sum_flat hrr)
  clear hrr htn hby
  by_cases hf : Fits2 tn vs
  · have HF := As.mk hf
    have HDF : As (decide (Fits2 tn vs) = true) := ⟨decide_eq_true hf⟩
    clear hf
    go_enter Tryd.func3, Tryd.ntmps3
    go_wp2_with fail
    refine (fits2_all A tn tc vs _ HN.out HR.out.1).mono ?_
    rintro e w1 ⟨rfl, rfl⟩
    rw [HDF.out]
    go_wp2_with fail
    refine (total_any A tn tc vs _ HN.out HR.out.1 HF.out).mono ?_
    rintro e w2 ⟨rfl, rfl⟩
    rw [HS.out]
    obtain ⟨m, hm⟩ : ∃ m, m = xss.flatten.length := ⟨_, rfl⟩
    rw [← hm]
    have HM := As.mk hm
    clear hm HS
    by_cases hle : m ≤ 3000
    · have hz : ¬ (3000 : Int) < (m : Int) := by omega
      have HLE : As (xss.flatten.length ≤ 3000) := ⟨by rw [← HM.out]; exact hle⟩
      go_wp2_with fail
      refine (dashEscape_any A tn tc vs xss _ HN.out HR.out HLE.out).mono ?_
      rintro e w3 ⟨v1, v2, rfl, ho2, hc3⟩
      obtain ⟨A2, c2, hv2, hn2, _⟩ := ow_form (ow_of ho2)
      obtain ⟨n2, hn2e⟩ : ∃ n2, n2 = (dashed xss.flatten).out.length := ⟨_, rfl⟩
      rw [← hn2e] at hv2
      subst hv2
      have HN2 := As.mk hn2e
      have HO2 := As.mk ho2
      have HC3 := As.mk hc3
      clear ho2 hc3 hn2e hn2
      go_wp2_with fail
      refine (joined_any A tn tc vs xss _ HN.out (HR.out.keep HC3.out) (by have := HLE.out; omega)).mono ?_
      rintro e w4 ⟨v4, rfl, ho4, hc4⟩
      obtain ⟨A4, c4, hv4, hn4, hr4⟩ := ow_form (ow_of ho4)
      have HA4 : As (∀ ad, A4 = some ad → ad.block < w4.heap.size) := ⟨fun ad e => (own_block_lt ho4 ad.block (by rw [hv4, e]; rfl)).2⟩
      rw [← HM.out] at hv4 hn4
      subst hv4
      have HR4 := As.mk hr4
      have HC4 := As.mk (HC3.out.trans hc4 (fun _ _ e => e))
      have HO2b := As.mk (own_keep HO2.out hc4)
      clear ho4 hc4 hr4 HO2
      go_wp2_with fail
      refine (unended_any A4 m c4 xss.flatten _ HM.out hn4 (by omega) HR4.out).mono ?_
      rintro e w5 ⟨m5, rfl, rfl, hm5, hu, hm5e⟩
      have HU := As.mk hu
      have HME := As.mk hm5e
      have HRU : As (Rb w5 A4 (unendedL xss.flatten)) := ⟨by rw [hu]; exact HR4.out.take_ m5⟩
      clear hu hm5e
      go_wp2_with fail
      refine (signed_any A4 m5 c4 (unendedL xss.flatten) _ HME.out (by omega) (by omega) HRU.out HA4.out).mono ?_
      rintro e w6 ⟨v6, rfl, ho6, hc6⟩
      obtain ⟨A6, c6, hv6, _, hr6⟩ := ow_form (ow_of ho6)
      have HEQ : As ((dashed xss.flatten).out = signS (linesL (unendedL xss.flatten))) := ⟨dashed_signed _⟩
      rw [← HEQ.out] at hv6 hr6
      rw [← HN2.out] at hv6
      subst hv6
      have HR6 := As.mk hr6
      have HC6 := As.mk (HC4.out.trans hc6 (fun _ _ e => e))
      have HO2c := As.mk (own_keep HO2b.out hc6)
      clear ho6 hc6 hr6
      go_wp2_with fail
      refine (same_yes A2 n2 c2 (dashed xss.flatten).out A6 n2 c6 _ HN2.out HN2.out (own_reads HO2c.out) HR6.out).mono ?_
      rintro e w7 ⟨rfl, k7, rfl⟩
      go_wp2_with fail
      go_ret
      exact ⟨rfl, (HC6.out.drewN k7).below (Nat.le_refl _) (fun _ _ e => e)⟩
    · have hz : (3000 : Int) < (m : Int) := by omega
      go_wp2_with fail
      go_ret
      exact ⟨rfl, Below.refl _ _⟩
  · have HDF : As (decide (Fits2 tn vs) = false) := ⟨decide_eq_false hf⟩
    clear hf
    go_enter Tryd.func3, Tryd.ntmps3
    go_wp2_with fail
    refine (fits2_all A tn tc vs _ HN.out HR.out.1).mono ?_
    rintro e w1 ⟨rfl, rfl⟩
    rw [HDF.out]
    go_wp2_with fail
    go_ret
    exact ⟨rfl, Below.refl _ _⟩
end Go.Proofs.YtphnjfbaioblbaaDoor
