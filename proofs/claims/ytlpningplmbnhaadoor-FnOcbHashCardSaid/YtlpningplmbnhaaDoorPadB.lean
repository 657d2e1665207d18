/- The contract of spec.paddedBlock. -/
import Derived.Test.YtlpningplmbnhaaDoorBase
import Derived.Test.YtlpningplmbnhaaDoorV5
set_option linter.unusedVariables false
set_option linter.unusedSimpArgs false
namespace Go.Proofs.YtlpningplmbnhaaDoor
open Go.RowKit V
def padB (xs : List Int) (size : Nat) : List Int := xs ++ [128] ++ List.replicate (size - (xs.length + 1)) 0
theorem padB_length {xs : List Int} {size : Nat} (h : xs.length < size) : (padB xs size).length = size := by simp [padB]; omega
set_option maxRecDepth 100000 in
set_option maxHeartbeats 1000000 in
theorem paddedBlock_any (A : Option Addr) (n c : Nat) (xs : List Int) (size : Nat) (w : World) (hn : n = xs.length) (rx : Rb w A xs) (hs : n < size) (hl : size ≤ 65536) :
    Calls Tryd.prog 20 #[.slice A n c, .int .i64 size] w (Gives NoB w (padB xs size)) := by
  have HN := As.mk hn
  have RX := As.mk rx
  clear hn rx
  obtain ⟨m, hm⟩ : ∃ m, size = n + 1 + m := ⟨size - (n + 1), by omega⟩
  have HM := As.mk hm
  have hsub : (size : Int) - ((n : Int) + 1) = (m : Int) := by omega
  have hsub2 : (size : Int) - ((n + 1 : Nat) : Int) = (m : Int) := by omega
  clear hm
  go_enter Tryd.func20, Tryd.ntmps20
  go_wp2_with (first
    | (at_builtin; refine wpList_append_e rfl _ _ 22 rfl 5 .u8 1 Tryd.underlying22 info8 (by decide) _ w.heap.size xs A n c rfl rfl HN.out (RX.out.alloc _) (by simp) (by have := HN.out; omega) ?_
       intro v1 w1 ho1 hc1
       have HO1 := As.mk ho1
       have HC1 := As.mk (((Chg.refl NoB w).alloc (.cells #[] 5)).trans hc1 (fun _ _ e => e))
       clear ho1 hc1)
    | ((with_reducible refine gate (N := 10) rfl ?_); refine wpList_append_ow rfl _ _ 22 rfl 5 .u8 1 Tryd.underlying22 info8 (by decide) _ w.heap.size xs [128] (some ⟨w1.heap.size, 0, none⟩) 1 1 rfl rfl rfl (ow_keep HO1.out ((Chg.refl NoB w1).alloc _)) (own_reads (own_lit w1 0 5 .u8 [128] (Nat.zero_le _) (by simp [maxLen]))) (Nat.le_trans HC1.out.size ((Chg.refl NoB w1).alloc (.cells #[.int .u8 128] 5)).size) (by have := HN.out; simp; omega) ?_
       intro v2 w2 ho2 hc2
       have HO2 := As.mk (ow_own ho2 (by simp))
       have HC2 : As (Chg NoB w w2) := ⟨Chg.over (HC1.out.alloc (.cells #[.int .u8 128] 5)) hc2 (Nat.le_refl _)⟩
       obtain ⟨g2, c2, hv2, hl2, hg2, hg2'⟩ := own_form_pos HO2.out (by simp)
       rw [show (xs ++ [(128 : Int)]).length = n + 1 from by rw [List.length_append, HN.out]; rfl] at hv2 hl2
       subst hv2
       clear ho2 hc2 hl2 hg2 hg2')
    | ((with_reducible refine gate (N := 16) rfl ?_); refine wpList_append_zeros rfl _ _ 22 3 rfl 5 .u8 1 Tryd.underlying22 Tryd.underlying3 info8 (by decide) w.heap.size g2 (n + 1) c2 (xs ++ [128]) rfl HO2.out .i64 m rfl HC2.out.size (by omega) ?_
       intro v3 w3 ho3 hc3
       have HO3 := As.mk ho3
       have HC3 : As (Chg NoB w w3) := ⟨Chg.over HC2.out hc3 (Nat.le_refl _)⟩
       clear ho3 hc3))
  go_ret
  refine ⟨_, rfl, ?_, HC3.out⟩
  have e : padB xs size = xs ++ [128] ++ List.replicate m 0 := by unfold padB; rw [← HN.out, show size - (n + 1) = m from by have := HM.out; omega]
  rw [e]
  exact HO3.out
end Go.Proofs.YtlpningplmbnhaaDoor
