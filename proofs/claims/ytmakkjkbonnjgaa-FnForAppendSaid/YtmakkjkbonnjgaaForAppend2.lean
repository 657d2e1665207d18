/- The walk of FnForAppend: SliceForAppend gives the text with so many bytes behind it, and those bytes alone. -/
import Derived.Test.YtmakkjkbonnjgaaForAppend
set_option linter.unusedVariables false
set_option linter.unusedSimpArgs false
namespace Go.Proofs.Ytmakkjkbonnjgaa
open Go.RowKit V
set_option maxRecDepth 100000 in
set_option maxHeartbeats 1000000 in
theorem fnForAppend_walk (A : Option Addr) (c : Nat) (xs : List Int) (s m : Int) (W : World) (hx : Rb W A xs) (hc : xs.length ≤ c) (hb : Byt xs) (hl : xs.length ≤ 140737488351232) (hs : (Lit.int .i64 s).wf = true) (hm : (Lit.int .i64 m).wf = true) :
    Calls Try.prog 5 #[.slice A xs.length c, .int .i64 s, .int .i64 m] W fun e W' => e = .returned (.bool true) ∧ Below W.heap.size W W' := by
  have HX := As.mk hx
  clear hx hb hs hm
  by_cases hbig : 2147483647 < xs.length
  · go_enter Try.func5, Try.ntmps5
    go_wp2_with fail
    go_ret
    exact ⟨rfl, Below.refl _ _⟩
  · by_cases h4 : xs.length ≤ 4096
    · have BR : ∀ (w : World) (m : Nat), Calls Try.prog 17 #[.slice (some ⟨w.heap.size, 0, none⟩) 1 m] (w.alloc (.cells #[.slice A xs.length c] 22)) fun e w' => e = .returned (.bool true) ∧ w' = w.alloc (.cells #[.slice A xs.length c] 22) := fun w m =>
        (brief_one A xs.length c _ m _ w rfl).mono fun _ _ ⟨he, hw⟩ => ⟨by rw [he, decide_eq_true h4], hw⟩
      have BR' := Lib.hid BR
      clear BR
      by_cases hg : 0 ≤ s ∧ s ≤ 4096 ∧ 0 ≤ m ∧ m ≤ 4096
      · obtain ⟨s0, s1, m0, m1⟩ := hg
        obtain ⟨s, rfl⟩ := Int.eq_ofNat_of_zero_le s0
        obtain ⟨m, rfl⟩ := Int.eq_ofNat_of_zero_le m0
        go_enter Try.func5, Try.ntmps5
        go_wp2_with fail
        refine (BR'.out _ _).mono ?_
        rintro e w1 ⟨rfl, rfl⟩
        go_wp2_with (at_builtin; refine wpList_append_ow rfl _ _ 22 rfl 5 .u8 1 Try.underlying22 info8 (by decide) _ (W.heap.size + 1) [] xs A xs.length c rfl rfl rfl (ow_empty _ _ _ _ _) ((HX.out.alloc _).alloc _) (by simp) (by simp; omega) ?_; intro u2 w2 ho2 hc2; have HO2 := As.mk ho2; have HC2 := As.mk hc2; clear ho2 hc2)
        obtain ⟨A2, c2, rfl, hlc2, hr2⟩ := ow_form HO2.out
        rw [List.nil_append] at hr2
        have k2 : Chg NoB W w2 := (((Chg.refl NoB W).alloc _).alloc _).over HC2.out (by omega)
        refine (forAppend_any A2 _ c2 s m xs _ (by simp) hr2 h4 (by omega) (by omega)).mono ?_
        rintro e w3 ⟨vh, vt, hs, rfl, hlen, htk, hoh, hot, hc3⟩
        obtain ⟨Ah, ch, rfl, hlh, hrh, _⟩ := own_form hoh
        obtain ⟨At, ct, rfl, hlt, hrt, _⟩ := own_form hot
        have hlt2 : (hs.drop xs.length).length = m := by rw [List.length_drop]; omega
        rw [hlen] at hlh
        rw [hlen, hlt2]
        have hcut := cut_to (P := Try.prog) 22 5 Try.underlying22 size8 Ah (xs.length + m) ch (xs.length : Int) .i64 xs.length rfl (by omega)
        obtain ⟨A5, hcut2, _, hA5⟩ := cut_from (P := Try.prog) 22 5 Try.underlying22 size8 Ah (xs.length + m) ch (xs.length : Int) .i64 m (ch - xs.length) (by omega) (by omega) (by omega) hlh
        have r1 : As (Rb w3 Ah xs) := ⟨by have := hrh.take_ xs.length; rwa [htk] at this⟩
        have r2 : As (Rb w3 A5 (hs.drop xs.length)) := ⟨by have := hA5 w3 .u8 hs hlen hrh; rwa [Int.toNat_natCast] at this⟩
        have r3 := As.mk hrt
        have HX3 := HX.out.keep (k2.trans hc3 (fun _ _ e => e))
        have HX4 := As.mk HX3
        have L2 := As.mk hlt2
        clear hA5 hrh hrt hoh hot hlen htk hlt2 HX3 hr2
        go_wp2_with fail
        refine (same_yes Ah _ ch xs A _ c _ rfl rfl r1.out HX4.out).mono ?_
        rintro e w4 ⟨rfl, n4, rfl⟩
        go_wp2_with fail
        refine (same_yes A5 _ _ (hs.drop xs.length) At _ ct _ L2.out.symm L2.out.symm (r2.out.drewN _) (r3.out.drewN _)).mono ?_
        rintro e w5 ⟨rfl, n5, rfl⟩
        go_wp2_with fail
        go_ret
        exact ⟨rfl, ((k2.trans hc3 (fun _ _ e => e)).drewN _).below (Nat.le_refl _) (fun _ _ e => e)⟩
      · rcases (by omega : s < 0 ∨ (0 ≤ s ∧ 4096 < s) ∨ (0 ≤ s ∧ s ≤ 4096 ∧ m < 0) ∨ (0 ≤ s ∧ s ≤ 4096 ∧ 0 ≤ m ∧ 4096 < m)) with q | ⟨q1, q2⟩ | ⟨q1, q2, q3⟩ | ⟨q1, q2, q3, q4⟩
        all_goals
          clear hg
          go_enter Try.func5, Try.ntmps5
          go_wp2_with fail
          refine (BR'.out _ _).mono ?_
          rintro e w1 ⟨rfl, rfl⟩
          go_wp2_with fail
          go_ret
          exact ⟨rfl, ((Chg.refl NoB W).alloc _).below (Nat.le_refl _) (fun _ _ e => e)⟩
    · have BR : ∀ (w : World) (m : Nat), Calls Try.prog 17 #[.slice (some ⟨w.heap.size, 0, none⟩) 1 m] (w.alloc (.cells #[.slice A xs.length c] 22)) fun e w' => e = .returned (.bool false) ∧ w' = w.alloc (.cells #[.slice A xs.length c] 22) := fun w m =>
        (brief_one A xs.length c _ m _ w rfl).mono fun _ _ ⟨he, hw⟩ => ⟨by rw [he, decide_eq_false h4], hw⟩
      have BR' := Lib.hid BR
      clear BR
      go_enter Try.func5, Try.ntmps5
      go_wp2_with fail
      refine (BR'.out _ _).mono ?_
      rintro e w1 ⟨rfl, rfl⟩
      go_wp2_with fail
      go_ret
      exact ⟨rfl, ((Chg.refl NoB W).alloc _).below (Nat.le_refl _) (fun _ _ e => e)⟩
end Go.Proofs.Ytmakkjkbonnjgaa
