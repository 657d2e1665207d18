/- The walk of FnShiftBits. -/
import Derived.Test.YtmakkjkbonnjgaaShift2
import Derived.Test.YtmakkjkbonnjgaaShift3
import Derived.Test.YtmakkjkbonnjgaaBrief
set_option linter.unusedVariables false
set_option linter.unusedSimpArgs false
namespace Go.Proofs.Ytmakkjkbonnjgaa
open Go.RowKit V
/-- A row of its own, and true. -/
def ShiftOk (S : Nat → Prop) (w : World) (xs : List Int) (e : Ending) (w' : World) : Prop :=
  ∃ v, e = .returned (.tuple #[v, .bool true]) ∧ Own w' w.heap.size 5 .u8 v xs ∧ Chg S w w'

set_option maxRecDepth 100000 in
set_option maxHeartbeats 1000000 in
theorem shiftBits_any (A : Option Addr) (n c : Nat) (xs : List Int) (i : Nat) (w : World) (hn : n = xs.length) (rx : Rb w A xs) (hb : Byt xs) (hp : 0 < n) (hl : n ≤ 1048576) (hi : i ≤ 8 * n) :
    Calls Try.prog 23 #[.slice A n c, .int .i64 i] w (ShiftOk NoB w (shifted xs i n)) := by
  have HN := As.mk hn
  have RX := As.mk rx
  have HY := As.mk hb
  clear hn rx hb
  have hz : ((n : Int) == 0) = false := by simp; omega
  obtain ⟨q, hQ⟩ : ∃ q, q = i / 8 := ⟨_, rfl⟩
  have hq : (i : Int) / 8 = (q : Int) := by omega
  have hqt : Int.tdiv (i : Int) 8 = (q : Int) := by rw [Int.tdiv_eq_ediv_of_nonneg (by omega)]; exact hq
  have hqn : q ≤ n := by omega
  have HQ := As.mk hQ
  clear hQ
  go_enter Try.func23, Try.ntmps23
  go_wp2_with ((with_reducible refine gate (N := 23) rfl ?_); refine wpList_make_k rfl _ 22 rfl 5 .u8 1 Try.underlying22 info8 (by decide) n _ rfl (by omega) (by omega) ?_; intro w1 g1 HG1 ho1 hc1 hz1; have HC1 := As.mk hc1; have HO1 := As.mk ho1; have HS1 := As.mk hz1; clear ho1 hc1 hz1)
  refine (own_any A n c xs _ HN.out (RX.out.keep HC1.out) (by have := HN.out; omega)).mono ?_
  rintro e w2 ⟨v2, rfl, ho2, hc2⟩
  obtain ⟨A2, c2, rfl, hlc2, hr2, hb2⟩ := own_form ho2
  rw [← HN.out] at hlc2 ⊢
  have HR2 := As.mk hr2
  have HO2 := As.mk (own_keep HO1.out hc2)
  have HC2 : As (Chg NoB w w2) := ⟨HC1.out.trans hc2 (fun _ _ e => e)⟩
  clear ho2 hc2 hr2 hb2
  go_wp2_with fail
  refine (shiftLeft_any g1 n A2 c2 xs q (i % 8) i w.heap.size w2 HN.out (by have := HQ.out; omega) (by omega) hqn hp hl hlc2 HY.out HO2.out HR2.out HC2.out.size).mono ?_
  rintro e w3 ⟨rfl, ho3, hc3⟩
  have HO3 := As.mk ho3
  have HC3 : As (Chg NoB w w3) := ⟨HC2.out.trans hc3 (fun k hk e => by have e2 : k = g1 := e; have := HG1.out; omega)⟩
  clear ho3 hc3
  go_wp2_with fail
  go_ret2
  exact ⟨_, rfl, HO3.out, HC3.out⟩

set_option maxRecDepth 100000 in
set_option maxHeartbeats 1000000 in
theorem fnShiftBits_walk (A : Option Addr) (c : Nat) (xs : List Int) (i : Int) (W : World) (hx : Rb W A xs) (hc : xs.length ≤ c) (hb : Byt xs) (hl : xs.length ≤ 140737488351232) (hi : (Lit.int .i64 i).wf = true) :
    Calls Try.prog 8 #[.slice A xs.length c, .int .i64 i] W fun e W' => e = .returned (.bool true) ∧ Below W.heap.size W W' := by
  have HX := As.mk hx
  have HY := As.mk hb
  clear hx hb hi
  generalize hn : xs.length = n at *
  have HN := As.mk hn
  clear hn
  by_cases hbig : 2147483647 < n
  · go_enter Try.func8, Try.ntmps8
    go_wp2_with fail
    go_ret
    exact ⟨rfl, Below.refl _ _⟩
  by_cases h0 : n = 0
  · subst h0
    go_enter Try.func8, Try.ntmps8
    go_wp2_with fail
    go_ret
    exact ⟨rfl, Below.refl _ _⟩
  have hz : ((n : Int) == 0) = false := by simp; omega
  have BR : ∀ (w : World) (m : Nat), Calls Try.prog 17 #[.slice (some ⟨w.heap.size, 0, none⟩) 1 m] (w.alloc (.cells #[.slice A n c] 22)) fun e w' => e = .returned (.bool (decide (n ≤ 4096))) ∧ w' = w.alloc (.cells #[.slice A n c] 22) := fun w m =>
    (brief_one A n c _ m _ w rfl)
  have BR' := Lib.hid BR
  clear BR
  by_cases h4 : n ≤ 4096
  · by_cases hr : 0 ≤ i ∧ i ≤ 8 * (n : Int)
    · obtain ⟨i0, i1⟩ := hr
      obtain ⟨i, rfl⟩ := Int.eq_ofNat_of_zero_le i0
      go_enter Try.func8, Try.ntmps8
      go_wp2_with fail
      refine (BR'.out _ _).mono ?_
      rintro e w1 ⟨rfl, rfl⟩
      rw [decide_eq_true h4]
      go_wp2_with (at_builtin; refine wpList_append_ow rfl _ _ 22 rfl 5 .u8 1 Try.underlying22 info8 (by decide) _ (W.heap.size + 1) [] xs A n c rfl rfl HN.out.symm (ow_empty _ _ _ _ _) ((HX.out.alloc _).alloc _) (by simp) (by have := HN.out; simp; omega) ?_; intro u2 w2 ho2 hc2; have HO2 := As.mk ho2; have HC2 := As.mk hc2; clear ho2 hc2)
      obtain ⟨A2, c2, rfl, hlc2, hr2⟩ := ow_form HO2.out
      rw [List.nil_append] at hr2 hlc2 ⊢
      rw [HN.out] at hlc2 ⊢
      have k2 : As (Chg NoB W w2) := ⟨(((Chg.refl NoB W).alloc _).alloc _).over HC2.out (by omega)⟩
      refine (shiftBits_any A2 n c2 xs i _ HN.out.symm hr2 HY.out (by omega) (by omega) (by omega)).mono ?_
      rintro e w3 ⟨v3, rfl, ho3, hc3⟩
      obtain ⟨A3, c3, rfl, hlc3, hr3, _⟩ := own_form ho3
      have L3 : As ((shifted xs i n).length = n) := ⟨tab_length _ _⟩
      rw [L3.out] at hlc3 ⊢
      have k3 : As (Chg NoB W w3) := ⟨k2.out.trans hc3 (fun _ _ e => e)⟩
      have HR3 := As.mk hr3
      clear ho3 hc3 hr3 hr2
      go_wp2_with fail
      refine (specShifted_any A n c xs i n _ HN.out.symm (HX.out.keep k3.out) HY.out hl (by omega) hl).mono ?_
      rintro e w4 ⟨v4, rfl, ho4, hc4⟩
      obtain ⟨A4, c4, rfl, hlc4, hr4, _⟩ := own_form ho4
      rw [L3.out] at hlc4 ⊢
      have k4 : As (Chg NoB W w4) := ⟨k3.out.trans hc4 (fun _ _ e => e)⟩
      have HR4 := As.mk hr4
      have HR5 := As.mk (HR3.out.keep hc4)
      clear ho4 hc4 hr4
      go_wp2_with fail
      refine (same_yes A3 _ c3 (shifted xs i n) A4 _ c4 _ L3.out.symm L3.out.symm HR5.out HR4.out).mono ?_
      rintro e w5 ⟨rfl, n5, rfl⟩
      go_wp2_with fail
      go_ret
      exact ⟨rfl, (k4.out.drewN _).below (Nat.le_refl _) (fun _ _ e => e)⟩
    · rcases (by omega : i < 0 ∨ (0 ≤ i ∧ 8 * (n : Int) < i)) with q | ⟨q1, q2⟩
      all_goals
        clear hr
        go_enter Try.func8, Try.ntmps8
        go_wp2_with fail
        refine (BR'.out _ _).mono ?_
        rintro e w1 ⟨rfl, rfl⟩
        rw [decide_eq_true h4]
        go_wp2_with fail
        go_ret
        exact ⟨rfl, ((Chg.refl NoB W).alloc _).below (Nat.le_refl _) (fun _ _ e => e)⟩
  · go_enter Try.func8, Try.ntmps8
    go_wp2_with fail
    refine (BR'.out _ _).mono ?_
    rintro e w1 ⟨rfl, rfl⟩
    rw [decide_eq_false h4]
    go_wp2_with fail
    go_ret
    exact ⟨rfl, ((Chg.refl NoB W).alloc _).below (Nat.le_refl _) (fun _ _ e => e)⟩
end Go.Proofs.Ytmakkjkbonnjgaa
