/- The walk of FnWriteHead. -/
import Derived.Test.YtllcfihbepmphaaWHead
set_option linter.unusedVariables false
set_option linter.unusedSimpArgs false
namespace Go.Proofs.Ytllcfihbepmphaa
open Go.RowKit V
theorem and63N : ∀ t : Nat, t < 256 → bits BinOp.and .u8 (t : Int) 63 = (t : Int) % 64 := by decide +kernel
theorem and63 {t : Int} (h : 0 ≤ t) (h2 : t ≤ 255) : bits BinOp.and .u8 t 63 = t % 64 := by
  obtain ⟨n, rfl⟩ := Int.eq_ofNat_of_zero_le h
  exact and63N n (by omega)
set_option maxRecDepth 100000 in
set_option maxHeartbeats 1000000 in
theorem fnWriteHead_walk (t : Int) (a : Int) (W : World) (wt : (Lit.int .u8 t).wf = true) (wf : (Lit.int .u32 a).wf = true) :
    Calls Try.prog 7 #[.int .u8 t, .int .u32 a] W fun e w' => e = .returned (.bool true) ∧ Below W.heap.size W w' := by
  have hw := wf_u32_lt wf
  have ht := wf_u8_byte wt
  obtain ⟨n, rfl⟩ := Int.eq_ofNat_of_zero_le hw.1
  have hn : n ≤ 4294967295 := by omega
  have h0 : 0 ≤ t % 64 := by omega
  have h1 : t % 64 < 64 := by omega
  have hand := and63 ht.1 ht.2
  obtain ⟨z, hz⟩ : ∃ z, t % 64 = z := ⟨_, rfl⟩
  rw [hz] at h0 h1 hand
  clear hw wf wt ht hz
  have HA : As (∀ w, Calls Try.prog 16 #[.int .u8 z, .int .i64 n] w fun e w' => ∃ v, e = .returned v ∧ Ow w' (w.heap.size + 1) 5 .u8 v ([192 + z] ++ lenL n) ∧ Chg NoB w w') := ⟨fun w => writeHead_any n z w h0 h1 hn⟩
  have HB : As (∀ w, Calls Try.prog 17 #[.int .i64 z, .int .i64 n] w fun e w' => ∃ v, e = .returned v ∧ Ow w' w.heap.size 5 .u8 v ([192 + z] ++ lenL n) ∧ Chg NoB w w') := ⟨fun w => newHead_any n z w h0 h1 hn⟩
  generalize [192 + z] ++ lenL n = L at HA HB
  go_enter Try.func7, Try.ntmps7
  go_wp2_with fail
  refine (HA.out _).mono ?_
  rintro e w1 ⟨v1, rfl, ho1, hc1⟩
  obtain ⟨A1, c1, rfl, _, hr1⟩ := ow_form ho1
  have HC1 := As.mk hc1
  have HR1 := As.mk hr1
  clear ho1 hc1 hr1
  go_wp2_with fail
  refine (HB.out _).mono ?_
  rintro e w2 ⟨v2, rfl, ho2, hc2⟩
  obtain ⟨A2, c2, rfl, _, hr2⟩ := ow_form ho2
  have HR1' := As.mk (HR1.out.keep hc2)
  have HC2 := As.mk (HC1.out.trans hc2 (fun _ _ e => e))
  have HR2 := As.mk hr2
  clear ho2 hc2 hr2
  go_wp2_with fail
  refine (same_yes A1 _ c1 L A2 _ c2 _ rfl rfl HR1'.out HR2.out).mono ?_
  rintro e w3 ⟨rfl, k, rfl⟩
  go_wp2_with fail
  go_ret
  exact ⟨rfl, (HC2.out.drewN k).below (Nat.le_refl _) (fun _ _ e => e)⟩
end Go.Proofs.Ytllcfihbepmphaa
