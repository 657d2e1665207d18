/- The walk of FnChunkNonce. -/
import Derived.Test.YtmakkjkbonnjgaaNonce
import Derived.Test.YtmakkjkbonnjgaaXoredR
set_option linter.unusedVariables false
set_option linter.unusedSimpArgs false
namespace Go.Proofs.Ytmakkjkbonnjgaa
open Go.RowKit V
set_option maxRecDepth 100000 in
set_option maxHeartbeats 1000000 in
theorem fnChunkNonce_walk (A : Option Addr) (c : Nat) (xs : List Int) (B : Option Addr) (d : Nat) (ys : List Int) (W : World) (hx : Rb W A xs) (hc : xs.length ≤ c) (hb : Byt xs) (hl : xs.length ≤ 140737488351232) (hy : Rb W B ys) (hd : ys.length ≤ d) (hb' : Byt ys) (hl' : ys.length ≤ 140737488351232) :
    Calls Try.prog 6 #[.slice A xs.length c, .slice B ys.length d] W fun e W' => e = .returned (.bool true) ∧ Below W.heap.size W W' := by
  have HX := As.mk hx
  have HY := As.mk hy
  clear hx hb hy hb'
  generalize hn : xs.length = n at *
  generalize hm : ys.length = m at *
  have HN := As.mk hn
  have HM := As.mk hm
  clear hn hm
  by_cases hbig : 2147483647 < n
  · go_enter Try.func6, Try.ntmps6
    go_wp2_with fail
    go_ret
    exact ⟨rfl, Below.refl _ _⟩
  by_cases hbig2 : 2147483647 < m
  · go_enter Try.func6, Try.ntmps6
    go_wp2_with fail
    go_ret
    exact ⟨rfl, Below.refl _ _⟩
  by_cases h8 : n < 8
  · go_enter Try.func6, Try.ntmps6
    go_wp2_with fail
    go_ret
    exact ⟨rfl, Below.refl _ _⟩
  have BR : ∀ (w : World) (m : Nat), Calls Try.prog 17 #[.slice (some ⟨w.heap.size, 0, none⟩) 1 m] (w.alloc (.cells #[.slice A n c] 22)) fun e w' => e = .returned (.bool (decide (n ≤ 4096))) ∧ w' = w.alloc (.cells #[.slice A n c] 22) := fun w m =>
    (brief_one A n c _ m _ w rfl)
  have BR' := Lib.hid BR
  clear BR
  by_cases h4 : n ≤ 4096
  · by_cases hm8 : m = 8
    · subst hm8
      obtain ⟨q, hq⟩ : ∃ q, n = q + 8 := ⟨n - 8, by omega⟩
      have HQ := As.mk hq
      clear hq
      have HC : As (Chg NoB W (W.alloc (.cells #[.slice A n c] 22))) := ⟨(Chg.refl _ _).alloc _⟩
      go_enter Try.func6, Try.ntmps6
      go_wp2_with fail
      refine (BR'.out _ _).mono ?_
      rintro e w1 ⟨rfl, rfl⟩
      rw [decide_eq_true h4]
      go_wp2_with fail
      refine (chunkNonce_any n q A c xs B d ys _ HQ.out HN.out HM.out (HX.out.keep HC.out) (HY.out.keep HC.out) (by have := HQ.out; omega)).mono ?_
      rintro e w2 ⟨v, rfl, ho, hc2⟩
      obtain ⟨A3, c3, rfl, _, hr3, _⟩ := own_form ho
      have HC2 : As (Chg NoB W w2) := ⟨HC.out.trans hc2 (fun _ _ e => e)⟩
      have HR3 := As.mk hr3
      have HL : As ((xorR q xs ys).length = n) := ⟨(tab_length _ _).trans HQ.out.symm⟩
      rw [HL.out]
      clear ho hc2 hr3
      go_wp2_with fail
      refine (specXoredRight_n A n c q 8 xs B d ys _ HQ.out HN.out HM.out (by rw [HN.out]; exact hc) (HX.out.keep HC2.out) (HY.out.keep HC2.out) (by omega)).mono ?_
      rintro e w3 ⟨v, rfl, ho, hc3⟩
      rw [xorR_eq q xs ys (HN.out.trans HQ.out) HM.out] at ho
      obtain ⟨A4, c4, rfl, _, hr4⟩ := ow_form ho
      have HC3 : As (Chg NoB W w3) := ⟨HC2.out.trans hc3 (fun _ _ e => e)⟩
      have HR4 := As.mk hr4
      have HR5 := As.mk (HR3.out.keep hc3)
      rw [HL.out]
      clear ho hc3 hr4 HR3
      go_wp2_with fail
      refine (same_yes A3 _ c3 (xorR q xs ys) A4 _ c4 _ HL.out.symm HL.out.symm HR5.out HR4.out).mono ?_
      rintro e w4 ⟨rfl, n4, rfl⟩
      go_wp2_with fail
      go_ret
      exact ⟨rfl, (HC3.out.drewN _).below (Nat.le_refl _) (fun _ _ e => e)⟩
    · have hne : ((m : Int) != 8) = true := by simp; omega
      go_enter Try.func6, Try.ntmps6
      go_wp2_with fail
      refine (BR'.out _ _).mono ?_
      rintro e w1 ⟨rfl, rfl⟩
      rw [decide_eq_true h4]
      go_wp2_with fail
      go_ret
      exact ⟨rfl, ((Chg.refl NoB W).alloc _).below (Nat.le_refl _) (fun _ _ e => e)⟩
  · go_enter Try.func6, Try.ntmps6
    go_wp2_with fail
    refine (BR'.out _ _).mono ?_
    rintro e w1 ⟨rfl, rfl⟩
    rw [decide_eq_false h4]
    go_wp2_with fail
    go_ret
    exact ⟨rfl, ((Chg.refl NoB W).alloc _).below (Nat.le_refl _) (fun _ _ e => e)⟩
end Go.Proofs.Ytmakkjkbonnjgaa
