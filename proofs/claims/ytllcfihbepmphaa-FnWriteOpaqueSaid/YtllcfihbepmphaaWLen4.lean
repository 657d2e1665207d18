/- The contract of spec.Length; the walk of FnWriteLength. -/
import Derived.Test.YtllcfihbepmphaaWLen3
import Derived.Test.YtllcfihbepmphaaOctets
set_option linter.unusedVariables false
set_option linter.unusedSimpArgs false
namespace Go.Proofs.Ytllcfihbepmphaa
open Go.RowKit V
set_option maxRecDepth 100000 in
set_option maxHeartbeats 1000000 in
theorem specLength_small (n : Nat) (w : World) (h : n < 192) :
    Calls Try.prog 15 #[.int .i64 n] w fun e w' => ∃ v, e = .returned v ∧ Ow w' w.heap.size 5 .u8 v (lenL n) ∧ Chg NoB w w' := by
  have hL : As (lenL n = [(n : Int)]) := ⟨by unfold lenL; rw [if_pos h]⟩
  go_enter Try.func15, Try.ntmps15
  go_wp2
  go_ret
  refine ⟨_, rfl, .inl ?_, (Chg.refl _ _).alloc _⟩
  rw [hL.out]
  exact own_lit w w.heap.size _ .u8 [(n : Int)] (Nat.le_refl _) (by simp [maxLen])
set_option maxRecDepth 100000 in
set_option maxHeartbeats 1000000 in
theorem specLength_mid (n : Nat) (w : World) (h : 192 ≤ n) (h2 : n < 8384) :
    Calls Try.prog 15 #[.int .i64 n] w fun e w' => ∃ v, e = .returned v ∧ Ow w' w.heap.size 5 .u8 v (lenL n) ∧ Chg NoB w w' := by
  have hL : As (lenL n = [((n : Int) - 192) / 256 + 192, ((n : Int) - 192) % 256]) := ⟨by
    unfold lenL
    rw [if_neg (by omega), if_pos h2, show ((n - 192 : Nat) : Int) = (n : Int) - 192 from by omega]⟩
  go_enter Try.func15, Try.ntmps15
  go_wp2
  go_ret
  refine ⟨_, rfl, .inl ?_, (Chg.refl _ _).alloc _⟩
  rw [hL.out]
  exact own_lit w w.heap.size _ .u8 [((n : Int) - 192) / 256 + 192, ((n : Int) - 192) % 256] (Nat.le_refl _) (by simp [maxLen])
set_option maxRecDepth 100000 in
set_option maxHeartbeats 1000000 in
theorem specLength_great (n : Nat) (w : World) (h : 8384 ≤ n) (h2 : n ≤ 4294967295) :
    Calls Try.prog 15 #[.int .i64 n] w fun e w' => ∃ v, e = .returned v ∧ Ow w' w.heap.size 5 .u8 v (lenL n) ∧ Chg NoB w w' := by
  have hL : As (lenL n = [255] ++ oct n 4) := ⟨by
    unfold lenL
    rw [if_neg (by omega), if_neg (by omega)]
    simp [oct, tab, List.range, List.range.loop]⟩
  go_enter Try.func15, Try.ntmps15
  go_wp2_with fail
  refine (octets_any n 4 _ (by omega) (by omega) (by omega)).mono ?_
  rintro e w1 ⟨v1, rfl, ho1, hc1⟩
  obtain ⟨A1, c1, rfl, _, hr1, _⟩ := own_form ho1
  have ho0 := own_keep (own_lit w w.heap.size 5 .u8 [255] (Nat.le_refl _) (by simp [maxLen])) hc1
  have HO0 : As (Ow w1 w.heap.size 5 .u8 (.slice (some ⟨w.heap.size, 0, none⟩) 1 1) [255]) := ⟨.inl ho0⟩
  have hc0 : Chg NoB w w1 := ((Chg.refl NoB w).alloc _).trans hc1 (fun _ _ e => e)
  have HC0 := As.mk hc0
  have HS0 := As.mk hc0.size
  have HR1 := As.mk hr1
  clear ho1 hc1 hr1 ho0 hc0
  go_wp2_with (at_builtin; refine wpList_append_ow rfl _ _ 22 rfl 5 .u8 1 Try.underlying22 info8 (by decide) _ w.heap.size [255] (oct n 4) A1 _ c1 rfl rfl rfl HO0.out HR1.out HS0.out (by simp [oct_length]) ?_; intro v2 w2 ho2 hc2)
  go_ret
  exact ⟨v2, rfl, by rw [hL.out]; exact ho2, Chg.over HC0.out hc2 (Nat.le_refl _)⟩
theorem specLength_any (n : Nat) (w : World) (h2 : n ≤ 4294967295) :
    Calls Try.prog 15 #[.int .i64 n] w fun e w' => ∃ v, e = .returned v ∧ Ow w' w.heap.size 5 .u8 v (lenL n) ∧ Chg NoB w w' := by
  by_cases h : n < 192
  · exact specLength_small n w h
  · by_cases h3 : n < 8384
    · exact specLength_mid n w (by omega) h3
    · exact specLength_great n w (by omega) h2
theorem lenL_length (n : Nat) : (lenL n).length ≤ 5 := by
  unfold lenL
  split
  · simp
  · split <;> simp
set_option maxRecDepth 100000 in
set_option maxHeartbeats 1000000 in
theorem fnWriteLength_walk (a : Int) (W : World) (wf : (Lit.int .u32 a).wf = true) :
    Calls Try.prog 6 #[.int .u32 a] W fun e w' => e = .returned (.bool true) ∧ Below W.heap.size W w' := by
  have hw := wf_u32_lt wf
  obtain ⟨n, rfl⟩ := Int.eq_ofNat_of_zero_le hw.1
  have hn : n ≤ 4294967295 := by omega
  clear hw wf
  go_enter Try.func6, Try.ntmps6
  go_wp2_with fail
  refine (writeLength_any n _ hn).mono ?_
  rintro e w1 ⟨v1, rfl, ho1, hc1⟩
  obtain ⟨A1, c1, rfl, _, hr1⟩ := ow_form ho1
  have HC1 := As.mk hc1
  have HR1 := As.mk hr1
  clear ho1 hc1 hr1
  go_wp2_with fail
  refine (specLength_any n _ hn).mono ?_
  rintro e w2 ⟨v2, rfl, ho2, hc2⟩
  obtain ⟨A2, c2, rfl, _, hr2⟩ := ow_form ho2
  have HR1' := As.mk (HR1.out.keep hc2)
  have HC2 := As.mk (HC1.out.trans hc2 (fun _ _ e => e))
  have HR2 := As.mk hr2
  clear ho2 hc2 hr2
  go_wp2_with fail
  refine (same_yes A1 _ c1 (lenL n) A2 _ c2 _ rfl rfl HR1'.out HR2.out).mono ?_
  rintro e w3 ⟨rfl, k, rfl⟩
  go_wp2_with fail
  go_ret
  exact ⟨rfl, (HC2.out.drewN k).below (Nat.le_refl _) (fun _ _ e => e)⟩
end Go.Proofs.Ytllcfihbepmphaa
