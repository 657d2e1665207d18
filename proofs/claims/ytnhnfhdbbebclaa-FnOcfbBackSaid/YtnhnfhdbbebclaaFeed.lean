/- The contracts of laws.zzFits2, laws.joinedTexts and laws.alike. -/
import Derived.Test.YtnhnfhdbbebclaaRws
set_option linter.unusedVariables false
set_option linter.unusedSimpArgs false
namespace Go.Proofs.Ytnhnfhdbbebclaa
open Go.RowKit V
def Fits2 (n : Nat) (vs : List Sl) : Prop := n ≤ 2147483647 ∧ ∀ v ∈ vs, v.2.1 ≤ 2147483647
instance (n : Nat) (vs : List Sl) : Decidable (Fits2 n vs) := inferInstanceAs (Decidable (n ≤ 2147483647 ∧ ∀ v ∈ vs, v.2.1 ≤ 2147483647))
set_option maxHeartbeats 400000 in
theorem fits2_all (A : Option Addr) (n c : Nat) (vs : List Sl) (w : World) (hn : n = vs.length) (hr : Rs w A vs) :
    Calls Try.prog 20 #[.slice A n c] w fun e w' => e = .returned (.bool (decide (Fits2 n vs))) ∧ w' = w := by
  have HR := As.mk hr
  have hm : n ≤ 9223372036854775806 := by have := hr.1; omega
  have HN := As.mk hn
  clear hr hn
  go_enter Try.func20, Try.ntmps20
  by_cases hbig : 2147483647 < n
  · have hb2 : (2147483647 : Int) < (n : Int) := by omega
    go_wp2
    go_ret
    exact ⟨by rw [decide_eq_false (fun h : Fits2 n vs => by have := h.1; omega)]; rfl, rfl⟩
  · have hb2 : ¬ (2147483647 : Int) < (n : Int) := by omega
    go_wp2
    go_loop [10] (fun i => ∃ k : Nat, k ≤ n ∧ i = .int .i64 k ∧ As (∀ j (h : j < vs.length), j < k → vs[j].2.1 ≤ 2147483647)) (fun i => n - (intOf i).toNat)
    case atStart => exact ⟨0, Nat.zero_le _, rfl, ⟨fun j h h' => by omega⟩⟩
    case round =>
      obtain ⟨k, hk, rfl, HT⟩ := hrel
      by_cases hlt : k < n
      · have hkv : k < vs.length := by have := HN.out; omega
        obtain ⟨ad, rfl, hc⟩ := HR.out.at_ k hkv
        have HA := As.mk HT.out
        clear HT
        generalize hq : vs[k].2.1 = q at *
        by_cases hle : 2147483647 < q
        · have hle2 : (2147483647 : Int) < (q : Int) := by omega
          have HB : As (¬ Fits2 n vs) := ⟨fun h => by have := h.2 _ (List.getElem_mem hkv); omega⟩
          clear hq
          go_wp2
          go_ret
          exact ⟨by rw [decide_eq_false HB.out]; rfl, rfl⟩
        · have hle2 : ¬ (2147483647 : Int) < (q : Int) := by omega
          have HB : As (∀ j (h : j < vs.length), j < k + 1 → vs[j].2.1 ≤ 2147483647) := ⟨fun j h h' => by
            by_cases e : j = k
            · subst e; omega
            · exact HA.out j h (by omega)⟩
          clear hq
          go_wp2
          go_round
          case rel => exact ⟨k + 1, by omega, by go_num, HB⟩
          case measure => simp [intOf]; omega
      · have HB : As (Fits2 n vs) := ⟨by omega, fun v hv => by
          obtain ⟨j, hj, rfl⟩ := List.mem_iff_getElem.1 hv
          exact HT.out j hj (by have := HN.out; omega)⟩
        go_wp2
        go_ret
        exact ⟨by rw [decide_eq_true HB.out]; rfl, rfl⟩
set_option maxRecDepth 100000 in
set_option maxHeartbeats 1000000 in
theorem joinedTexts_any (A : Option Addr) (n c : Nat) (vs : List Sl) (xss : List (List Int)) (w : World) (hn : n = vs.length) (hr : Rrs w A vs xss) (hl : xss.flatten.length ≤ 140737488351232) :
    Calls Try.prog 23 #[.slice A n c] w (Gives NoB w xss.flatten) := by
  have HR := As.mk hr
  have HN := As.mk hn
  have HL := As.mk hl
  have hm : n ≤ 9223372036854775806 := by have := hr.1.1; omega
  clear hr hn hl
  go_enter Try.func23, Try.ntmps23
  go_wp2_with fail
  go_loopw [3, 4] (fun v iv wr => ∃ (k : Nat) (Av : Option Addr) (nv cv : Nat), v = .slice Av nv cv ∧ k ≤ n ∧ iv = .int .i64 k ∧ As (Own wr w.heap.size 5 .u8 (.slice Av nv cv) (xss.take k).flatten) ∧ As (Chg NoB w wr)) (fun _ iv _ => n - (intOf iv).toNat)
  case atStart => exact ⟨0, none, 0, 0, rfl, Nat.zero_le _, rfl, ⟨own_nil _ _ _ _⟩, ⟨Chg.refl _ _⟩⟩
  case round =>
    obtain ⟨k, Av, nv, cv, rfl, hk, rfl, HO, HC⟩ := hrel
    by_cases hlt : k < n
    · have hkv : k < vs.length := by have := HN.out; omega
      have hkx : k < xss.length := by have := HR.out.2.1; omega
      have HRr := As.mk (HR.out.keep HC.out)
      have HF := As.mk (flat_take hkx)
      have hrow := HRr.out.2.2 k hkv hkx
      have hle2 := flat_take_le xss (k + 1)
      obtain ⟨ad, hadd, hb0, hcell⟩ := HR.out.1.2 (by omega)
      subst hadd
      have hck : wr.cell? (ad.add k) = some (.slice vs[k].1 vs[k].2.1 vs[k].2.2) := (HC.out.cell (p := ad.add k) (by rw [add_block]; exact hb0) (fun e => e)).trans (hcell k hkv)
      generalize vs[k].2.1 = pn at *
      generalize vs[k].1 = PA at *
      generalize vs[k].2.2 = pc at *
      generalize hys : xss[k] = ys at *
      have HBR := As.mk hrow.2
      have HPN := As.mk hrow.1
      have HLL : As ((xss.take k).flatten.length + ys.length ≤ 140737488351232) := ⟨by
        have := congrArg List.length HF.out
        have := HL.out
        rw [List.length_append] at *
        omega⟩
      clear hrow hcell hys hle2 hb0
      go_wp2_with (at_builtin; refine wpList_append_rk rfl _ _ 22 rfl 5 .u8 1 Try.underlying22 info8 (by decide) _ w.heap.size _ ys PA pc rfl (by rw [← HPN.out]; rfl) HO.out HBR.out HC.out.size (by have := HLL.out; omega) ?_; intro v1 w1 ho1 hg1 hb1; obtain ⟨A1, c1, hv1, _, _⟩ := ow_form (ow_of ho1); generalize hm1 : ((xss.take k).flatten ++ ys).length = m1 at hv1; clear hm1; subst hv1; have HO1 := As.mk ho1; have hc1 := grown_chg hg1; have HC1 := As.mk hc1; clear ho1 hg1 hb1 hc1)
      go_roundw
      case rel => exact ⟨k + 1, A1, m1, c1, rfl, by omega, by go_num, ⟨by rw [HF.out]; exact HO1.out⟩, ⟨HC.out.trans HC1.out (fun b hb e => by have := (own_block_lt HO.out b e).1; omega)⟩⟩
      case measure => simp [intOf]; omega
    · obtain rfl : k = n := by omega
      go_wp2_with fail
      go_ret
      refine ⟨_, rfl, ?_, HC.out⟩
      have h1 := HO.out
      rw [List.take_of_length_le (by have := HN.out; have := HR.out.2.1; omega)] at h1
      exact h1
set_option maxRecDepth 100000 in
set_option maxHeartbeats 1000000 in
theorem alike_yes (A : Option Addr) (n c : Nat) (vs : List Sl) (A2 : Option Addr) (c2 : Nat) (vs2 : List Sl) (w : World) (hn : n = vs.length) (hn2 : n = vs2.length) (hr : Rs w A vs) (hr2 : Rs w A2 vs2) (he : ∀ j (h : j < vs.length) (h2 : j < vs2.length), vs[j].2.1 = vs2[j].2.1) :
    Calls Try.prog 25 #[.slice A n c, .slice A2 n c2] w fun e w' => e = .returned (.bool true) ∧ ∃ m, w' = w.drewN m := by
  have HR := As.mk hr
  have HR2 := As.mk hr2
  have HE := As.mk he
  have hm : n ≤ 9223372036854775806 := by have := hr.1; omega
  have HN := As.mk (And.intro hn hn2)
  have hbne : ((n : Int) != (n : Int)) = false := by simp
  clear hr hr2 hn hn2 he
  go_enter Try.func25, Try.ntmps25
  go_wp2_with fail
  go_loopw [5] (fun i wr => ∃ k m : Nat, k ≤ n ∧ i = .int .i64 k ∧ wr = w.drewN m) (fun i _ => n - (intOf i).toNat)
  case atStart => exact ⟨0, 0, Nat.zero_le _, rfl, rfl⟩
  case round =>
    obtain ⟨k, m, hk, rfl, hwr⟩ := hrel
    have KQ : As (Chg NoB w wr) := ⟨by rw [hwr]; exact (Chg.refl NoB w).drewN m⟩
    have HWR := As.mk hwr
    by_cases hlt : k < n
    · have hkv : k < vs.length := by have := HN.out; omega
      have hkv2 : k < vs2.length := by have := HN.out; omega
      obtain ⟨ad, rfl, hc⟩ := (HR.out.chg KQ.out (fun _ _ _ e => e)).at_ k hkv
      obtain ⟨ad2, rfl, hc2⟩ := (HR2.out.chg KQ.out (fun _ _ _ e => e)).at_ k hkv2
      rw [← HE.out k hkv hkv2] at hc2
      generalize vs[k].2.1 = q at *
      have hqq : ((q : Int) != (q : Int)) = false := by simp
      clear hwr
      go_wp2_with fail
      go_quiet (fail)
      go_wp2_with fail
      go_roundw
      case rel => exact ⟨k + 1, m + nq, by omega, by go_num, by rw [HWR.out]; exact World.drewN_drewN _ _ _⟩
      case measure => simp [intOf]; omega
    · clear hwr
      go_wp2_with fail
      go_ret
      exact ⟨rfl, m, HWR.out⟩
end Go.Proofs.Ytnhnfhdbbebclaa
