/- The walk of FnSequence. -/
import Derived.Test.YtllcfihbepmphaaSeq5
import Derived.Test.YtllcfihbepmphaaSeq6
import Derived.Test.YtllcfihbepmphaaV3
set_option linter.unusedVariables false
set_option linter.unusedSimpArgs false
namespace Go.Proofs.Ytllcfihbepmphaa
open Go.RowKit V
theorem infoI : (Try.prog.info? 3).map (fun i => (i.zero, i.size, i.bytes)) = some (some (.int .i64 0), 1, 8) := by kernel_rfl
def mods (xs : List Int) : List Int := xs.map (· % 3)
theorem mods_snoc {xs : List Int} {k : Nat} (h : k < xs.length) : mods (xs.take (k + 1)) = mods (xs.take k) ++ [rd xs (k : Int) % 3] := by
  rw [take_snoc h]; simp [mods]
theorem mods_length (xs : List Int) : (mods xs).length = xs.length := by simp [mods]
theorem mods_small (xs : List Int) : ∀ x ∈ mods xs, x = 0 ∨ x = 1 ∨ x = 2 := by
  intro x hx
  simp only [mods, List.mem_map] at hx
  obtain ⟨y, _, rfl⟩ := hx
  omega
set_option maxRecDepth 100000 in
set_option maxHeartbeats 2000000 in
theorem fnSequence_walk (A : Option Addr) (c : Nat) (xs : List Int) (W : World) (hx : Rb W A xs) (hc : xs.length ≤ c) (hb : Byt xs) (hl : xs.length ≤ 140737488351232) :
    Calls Try.prog 3 #[.slice A xs.length c] W fun e W' => e = .returned (.bool true) ∧ Below W.heap.size W W' := by
  have HX := As.mk hx
  have HB := As.mk hb
  obtain ⟨n, hn⟩ : ∃ n, n = xs.length := ⟨_, rfl⟩
  rw [← hn]
  have HN := As.mk hn
  clear hx hb hn hc hl
  by_cases h2 : n ≤ 10000
  · go_enter Try.func3, Try.ntmps3
    go_wp2_with fail
    go_loopw [3, 5, 18] (fun v _ i w' => ∃ k : Nat, k ≤ n ∧ i = .int .i64 k ∧ As (Own w' W.heap.size 3 .i64 v (mods (xs.take k))) ∧ As (Chg NoB W w')) (fun _ _ i _ => n - (intOf i).toNat)
    case atStart => exact ⟨0, Nat.zero_le _, rfl, ⟨by simpa [mods] using own_nil _ _ _ _⟩, ⟨Chg.refl _ _⟩⟩
    case round =>
      obtain ⟨k, hk, rfl, HO, HC⟩ := hrel
      have hbs : W.heap.size ≤ wr.heap.size := HC.out.size
      obtain ⟨A1, c1, hv, hc1, hr1, _⟩ := own_form HO.out
      have hlm : (mods (xs.take k)).length = k := by rw [mods_length, List.length_take]; have := HN.out; omega
      rw [hlm] at hv hc1
      have HR1 := As.mk hr1
      have HLM := As.mk hlm
      subst hv
      clear hr1 hlm
      by_cases hlt : k < n
      · obtain ⟨a0, hA, hc0⟩ := (HX.out.keep HC.out).at_ (k : Int) (by omega) (by have := HN.out; omega)
        subst hA
        simp only [Int.toNat_natCast] at hc0
        have hrd := HB.out.rd (k : Int)
        have HS := As.mk (mods_snoc (xs := xs) (k := k) (by have := HN.out; omega))
        generalize rd xs (k : Int) = x at *
        have hx0 := hrd.1
        have hx1 := hrd.2
        clear hrd
        go_wp2_with (at_builtin; refine wpList_append_rk rfl _ _ 23 rfl 3 .i64 8 Try.underlying23 infoI (by decide) (.slice A1 k c1) W.heap.size (mods (xs.take k)) [x % 3] (some ⟨wr.heap.size, 0, none⟩) 1 rfl rfl (own_keep HO.out ((Chg.refl NoB wr).alloc _)) (own_reads (own_lit wr W.heap.size 3 .i64 [x % 3] hbs (by simp [maxLen]))) ?hb (by have := HLM.out; simp; omega) ?_; (case hb => simp; omega); intro v1 w1 ho1 hg1 _; have HO1 : As (Own w1 W.heap.size 3 .i64 v1 (mods (xs.take (k + 1)))) := ⟨by rw [HS.out]; exact ho1⟩; have HC1 : As (Chg NoB W w1) := ⟨(HC.out.alloc _).grown hg1 (fun j hj e => by have := (own_block_lt HO.out j e).1; omega)⟩; clear ho1 hg1)
        go_roundw
        case rel => exact ⟨k + 1, by omega, by go_num, HO1, HC1⟩
        case measure => simp [intOf]; omega
      · obtain rfl : k = n := by omega
        have htk : xs.take k = xs := by rw [HN.out]; exact List.take_length
        rw [htk] at HO HR1 HLM
        obtain ⟨l, hle⟩ : ∃ l, l = mods xs := ⟨_, rfl⟩
        have HSM : As (∀ x ∈ l, x = 0 ∨ x = 1 ∨ x = 2) := ⟨by rw [hle]; exact mods_small xs⟩
        rw [← hle] at HO HR1 HLM
        clear hle htk
        go_wp2_with fail
        refine (message_any l k c1 A1 _ HLM.out.symm hc1 HR1.out (by omega)).mono ?_
        rintro e w1 ⟨A2, n2, c2, b2, rfl, hb2, rfl⟩
        have HB2 := As.mk hb2
        clear hb2
        rcases b2 with _ | _
        · have HMI : As (isMsg 0 l = false) := ⟨by rw [← HB2.out]; rfl⟩
          go_wp2_with (first
            | ((with_reducible refine gate (N := 43) rfl ?_); refine wpList_append_e rfl _ _ 23 rfl 3 .i64 8 Try.underlying23 infoI (by decide) _ W.heap.size l A1 k c1 rfl rfl HLM.out.symm (HR1.out.alloc _) ?hb (by have := HLM.out; omega) ?_; (case hb => simp; omega); intro v2 w2 ho2 hc2; have HO2 := As.mk ho2; have HC2 : As (Chg NoB W w2) := ⟨(HC.out.alloc _).trans hc2 (fun _ _ e => e)⟩; have hb2 := HC2.out.size; clear ho2 hc2)
            | ((with_reducible refine gate (N := 45) rfl ?_); refine wpList_append_ow rfl _ _ 23 rfl 3 .i64 8 Try.underlying23 infoI (by decide) v2 W.heap.size l [6] (some ⟨w2.heap.size, 0, none⟩) 1 1 rfl rfl rfl (ow_keep HO2.out ((Chg.refl NoB w2).alloc _)) (own_reads (own_lit w2 W.heap.size 3 .i64 [6] hb2 (by simp [maxLen]))) ?hb (by have := HLM.out; simp; omega) ?_; (case hb => simp; omega); intro v3 w3 ho3 hc3; obtain ⟨A3, c3, hv3, _, hr3⟩ := ow_form ho3; have hll : (l ++ [(6 : Int)]).length = k + 1 := (by have := HLM.out; simp; omega); rw [hll] at hv3; clear hll; subst hv3; have HR3 := As.mk hr3; have HC3 : As (Chg NoB W w3) := ⟨Chg.over (HC2.out.alloc _) hc3 (Nat.le_refl _)⟩; clear ho3 hc3 hr3))
          refine (sequence_any l (k + 1) c3 A3 _ (by have := HLM.out; omega) HR3.out HSM.out (by have := HLM.out; omega)).mono ?_
          rintro e w4 ⟨⟨t4, rfl, ht4⟩, hc4⟩
          have HC4 := As.mk (HC3.out.trans hc4 (fun _ _ e => e))
          rw [HMI.out] at ht4 ⊢
          clear ht4 hc4
          go_wp2_with fail
          go_ret
          exact ⟨rfl, HC4.out.below (Nat.le_refl _) (fun _ _ e => e)⟩
        · by_cases hz : n2 = 0
          · subst hz
            have HMI : As (isMsg 0 l = true) := ⟨by rw [← HB2.out]; rfl⟩
            go_wp2_with (first
              | ((with_reducible refine gate (N := 43) rfl ?_); refine wpList_append_e rfl _ _ 23 rfl 3 .i64 8 Try.underlying23 infoI (by decide) _ W.heap.size l A1 k c1 rfl rfl HLM.out.symm (HR1.out.alloc _) ?hb (by have := HLM.out; omega) ?_; (case hb => simp; omega); intro v2 w2 ho2 hc2; have HO2 := As.mk ho2; have HC2 : As (Chg NoB W w2) := ⟨(HC.out.alloc _).trans hc2 (fun _ _ e => e)⟩; have hb2 := HC2.out.size; clear ho2 hc2)
              | ((with_reducible refine gate (N := 45) rfl ?_); refine wpList_append_ow rfl _ _ 23 rfl 3 .i64 8 Try.underlying23 infoI (by decide) v2 W.heap.size l [6] (some ⟨w2.heap.size, 0, none⟩) 1 1 rfl rfl rfl (ow_keep HO2.out ((Chg.refl NoB w2).alloc _)) (own_reads (own_lit w2 W.heap.size 3 .i64 [6] hb2 (by simp [maxLen]))) ?hb (by have := HLM.out; simp; omega) ?_; (case hb => simp; omega); intro v3 w3 ho3 hc3; obtain ⟨A3, c3, hv3, _, hr3⟩ := ow_form ho3; have hll : (l ++ [(6 : Int)]).length = k + 1 := (by have := HLM.out; simp; omega); rw [hll] at hv3; clear hll; subst hv3; have HR3 := As.mk hr3; have HC3 : As (Chg NoB W w3) := ⟨Chg.over (HC2.out.alloc _) hc3 (Nat.le_refl _)⟩; clear ho3 hc3 hr3))
            refine (sequence_any l (k + 1) c3 A3 _ (by have := HLM.out; omega) HR3.out HSM.out (by have := HLM.out; omega)).mono ?_
            rintro e w4 ⟨⟨t4, rfl, ht4⟩, hc4⟩
            have HC4 := As.mk (HC3.out.trans hc4 (fun _ _ e => e))
            rw [HMI.out] at ht4 ⊢
            have ht5 := ht4 rfl
            rw [HLM.out] at ht5
            subst ht5
            clear ht4 hc4
            go_wp2_with fail
            go_ret
            exact ⟨rfl, HC4.out.below (Nat.le_refl _) (fun _ _ e => e)⟩
          · have HMI : As (isMsg 0 l = false) := ⟨by rw [← HB2.out]; simp [hz]⟩
            have hzb : ((n2 : Int) == 0) = false := by simp; omega
            clear hz
            go_wp2_with (first
              | ((with_reducible refine gate (N := 43) rfl ?_); refine wpList_append_e rfl _ _ 23 rfl 3 .i64 8 Try.underlying23 infoI (by decide) _ W.heap.size l A1 k c1 rfl rfl HLM.out.symm (HR1.out.alloc _) ?hb (by have := HLM.out; omega) ?_; (case hb => simp; omega); intro v2 w2 ho2 hc2; have HO2 := As.mk ho2; have HC2 : As (Chg NoB W w2) := ⟨(HC.out.alloc _).trans hc2 (fun _ _ e => e)⟩; have hb2 := HC2.out.size; clear ho2 hc2)
              | ((with_reducible refine gate (N := 45) rfl ?_); refine wpList_append_ow rfl _ _ 23 rfl 3 .i64 8 Try.underlying23 infoI (by decide) v2 W.heap.size l [6] (some ⟨w2.heap.size, 0, none⟩) 1 1 rfl rfl rfl (ow_keep HO2.out ((Chg.refl NoB w2).alloc _)) (own_reads (own_lit w2 W.heap.size 3 .i64 [6] hb2 (by simp [maxLen]))) ?hb (by have := HLM.out; simp; omega) ?_; (case hb => simp; omega); intro v3 w3 ho3 hc3; obtain ⟨A3, c3, hv3, _, hr3⟩ := ow_form ho3; have hll : (l ++ [(6 : Int)]).length = k + 1 := (by have := HLM.out; simp; omega); rw [hll] at hv3; clear hll; subst hv3; have HR3 := As.mk hr3; have HC3 : As (Chg NoB W w3) := ⟨Chg.over (HC2.out.alloc _) hc3 (Nat.le_refl _)⟩; clear ho3 hc3 hr3))
            refine (sequence_any l (k + 1) c3 A3 _ (by have := HLM.out; omega) HR3.out HSM.out (by have := HLM.out; omega)).mono ?_
            rintro e w4 ⟨⟨t4, rfl, ht4⟩, hc4⟩
            have HC4 := As.mk (HC3.out.trans hc4 (fun _ _ e => e))
            rw [HMI.out] at ht4 ⊢
            clear ht4 hc4
            go_wp2_with fail
            go_ret
            exact ⟨rfl, HC4.out.below (Nat.le_refl _) (fun _ _ e => e)⟩
  · go_enter Try.func3, Try.ntmps3
    go_wp2
    all_goals go_ret
    all_goals exact ⟨rfl, Below.refl _ _⟩
end Go.Proofs.Ytllcfihbepmphaa
