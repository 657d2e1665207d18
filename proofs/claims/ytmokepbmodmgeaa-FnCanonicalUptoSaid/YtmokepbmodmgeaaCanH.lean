/- The contracts of a canonical text hash's Write and Sum over a recorder, and of impl.CanonicalText. -/
import Derived.Test.YtmokepbmodmgeaaCanW
set_option linter.unusedVariables false
set_option linter.unusedSimpArgs false
namespace Go.Proofs.Ytmokepbmodmgeaa
open Go.RowKit V
theorem Rec.keep {w w' : World} {base g q h : Nat} {xs : List Int} (hr : Rec w base g q h xs) (hc : Chg NoB w w') : Rec w' base g q h xs := by
  obtain ⟨v, h1, h2, h3⟩ := hr
  exact ⟨v, h1.chg hc (fun e => e), own_keep h2 hc, h3⟩
set_option maxRecDepth 100000 in
set_option maxHeartbeats 1000000 in
theorem ctWrite_any (base g q h n c s : Nat) (A : Option Addr) (ys xs : List Int) (w : World) (hn : n = ys.length) (hnc : n ≤ c) (hr : Rec w base g q h xs)
    (hb : Blk w h 68 [.iface 52 (.pointer (some ⟨g, 0, none⟩)), .int .i64 s]) (hs1 : s ≤ 1) (hg : base ≤ g ∧ g ≠ q ∧ g ≠ h) (hh : base ≤ h ∧ h ≠ q) (hq : q < w.heap.size) (ry : Rf (fun b => b = q) w A ys) (hl : xs.length + 2 * ys.length ≤ 1048576) :
    Calls Try.prog 57 #[.pointer (some ⟨h, 0, none⟩), .slice A n c] w (WroteC w base g q h (xs ++ canS s ys) (stS s ys) n) := by
  have HW := As.mk (fun w' (hc : Chg NoB w w') => writeCanonical_any base g q h n c s A ys xs w' hn hnc (hr.keep hc) (hb.chg hc (fun e => e)) hs1 hg hh (Nat.lt_of_lt_of_le hq hc.size) (ry.keep hc) hl)
  have c0 := hb.cell 0
  have c1 := hb.cell 1
  simp only [List.getElem?_cons_zero, List.getElem?_cons_succ] at c0 c1
  clear hr hb ry hn hl hs1 hq
  go_enter Try.func57, Try.ntmps57
  go_wp2_with fail
  go_region_law (first
    | (go_simp
       refine (HW.out _ ?c1).mono ?_
       case c1 => repeat (first | exact Chg.refl _ _ | (with_reducible apply Chg.drew) | (with_reducible apply Chg.alloc))
       rintro e w1 ⟨rfl, hr1, hb1, hc1⟩
       have H1 := As.mk (And.intro hr1 hb1)
       have HC1 : As (Chg (fun b => base ≤ b ∧ b ≠ q) w w1) := ⟨Chg.trans (Chg.mono (S := NoB) (by repeat (first | exact Chg.refl _ _ | (with_reducible apply Chg.drew) | (with_reducible apply Chg.alloc))) (fun _ _ e => e.elim)) hc1 (fun _ _ e => e)⟩
       clear hr1 hb1 hc1))
  all_goals
    go_wp2_with fail
    go_ret2
    exact ⟨rfl, H1.out.1, H1.out.2, HC1.out⟩
set_option maxRecDepth 100000 in
set_option maxHeartbeats 1000000 in
theorem recSum_any (base g q h : Nat) (xs : List Int) (w : World) (hr : Rec w base g q h xs) (hl : xs.length ≤ 1048576) :
    Calls Try.prog 51 #[.pointer (some ⟨g, 0, none⟩), .slice none 0 0] w (Gives NoB w xs) := by
  obtain ⟨v, hbk, ho, _⟩ := hr
  obtain ⟨A0, c00, hv0, hl0, hr0⟩ := ow_form (ow_of ho)
  generalize hm0 : xs.length = m0 at hv0
  subst hv0
  have HM := As.mk hm0
  have RX := As.mk hr0
  have c0 := hbk.cell 0
  simp only [List.getElem?_cons_zero] at c0
  clear hbk ho hm0 hr0 hl0
  go_enter Try.func51, Try.ntmps51
  go_wp2_with (at_builtin; refine wpList_append_rk rfl _ _ 22 rfl 5 .u8 1 Try.underlying22 info8 (by decide) _ w.heap.size [] xs A0 c00 rfl (by rw [HM.out]; rfl) (own_nil _ _ _ _) RX.out (Nat.le_refl _) (by simp; omega) ?_; intro v1 w1 ho1 hg1 hb1; rw [List.nil_append] at ho1; have HO1 := As.mk ho1; have hc1 := grown_chg hg1; have HC1 := As.mk hc1; clear ho1 hg1 hb1 hc1)
  go_ret
  exact ⟨_, rfl, HO1.out, HC1.out.mono (fun b _ e => by cases e)⟩
set_option maxRecDepth 100000 in
set_option maxHeartbeats 1000000 in
theorem ctSum_any (base g q h s : Nat) (xs : List Int) (w : World) (hr : Rec w base g q h xs) (hb : Blk w h 68 [.iface 52 (.pointer (some ⟨g, 0, none⟩)), .int .i64 s]) (hl : xs.length ≤ 1048576) :
    Calls Try.prog 56 #[.pointer (some ⟨h, 0, none⟩), .slice none 0 0] w (Gives NoB w xs) := by
  have HS := As.mk (recSum_any base g q h xs w hr hl)
  have c0 := hb.cell 0
  simp only [List.getElem?_cons_zero] at c0
  have n1 := na_rs
  have m1 := me_rs
  clear hr hb hl
  go_enter Try.func56, Try.ntmps56
  go_wp2_with fail
  refine HS.out.mono ?_
  rintro e w1 ⟨v1, rfl, ho1, hc1⟩
  have H1 := As.mk (And.intro ho1 hc1)
  clear ho1 hc1
  go_wp2_with fail
  go_ret
  exact ⟨_, rfl, H1.out.1, H1.out.2⟩
set_option maxRecDepth 100000 in
set_option maxHeartbeats 1000000 in
theorem newCt_any (g : Nat) (w : World) :
    Calls Try.prog 26 #[.iface 52 (.pointer (some ⟨g, 0, none⟩))] w fun e w' => ∃ h, e = .returned (.iface 66 (.pointer (some ⟨h, 0, none⟩))) ∧ w.heap.size ≤ h ∧ Blk w' h 68 [.iface 52 (.pointer (some ⟨g, 0, none⟩)), .int .i64 0] ∧ Chg NoB w w' := by
  go_enter Try.func26, Try.ntmps26
  go_wp2_with fail
  go_ret
  exact ⟨_, rfl, Nat.le_refl _, Blk.new w _ [.iface 52 (.pointer (some ⟨g, 0, none⟩)), .int .i64 0], (Chg.refl NoB w).alloc _⟩
end Go.Proofs.Ytmokepbmodmgeaa
