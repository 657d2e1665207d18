/- The contracts of nat.add, nat.cmp for numbers of at most one word. -/
import Derived.Test.YthnebljgnmggaaaDoorBgF
set_option linter.unusedVariables false
set_option linter.unusedSimpArgs false
namespace Go.Proofs.YthnebljgnmggaaaDoor
open Go.RowKit V
set_option maxRecDepth 100000 in
set_option maxHeartbeats 1000000 in
theorem addN_right0 {w : World} {base base' : Nat} {z v : Value} {B : Option Addr} {d x : Nat} (hz : Stq w base z) (hb : base ≤ w.heap.size) (hv : Nq w base' v x) :
    Calls Tryd.prog 23 #[z, v, .slice B 0 d] w (GivesN w base z x) := by
  rcases hv.cases with ⟨A, c, rfl, rfl⟩ | ⟨g, c, l, rfl, hg, hB, hl, hc, hx1, hx, h0⟩
  · obtain ⟨v', hcut, hn, ho, A', c', rfl⟩ := cut_zero hz
    have HN := As.mk (And.intro hn ho)
    clear hz hb hn ho hv
    go_enter Tryd.func23, Tryd.ntmps23
    go_wp2_with fail
    go_ret
    exact ⟨_, rfl, HN.out.1, Chg.refl _ _, fun b e => .inl (HN.out.2 b e)⟩
  · have H := As.mk (set_any hz hb hB hl hc h0 hx1 hx)
    clear hz hb hv hg hB hl hc hx1 hx h0
    go_enter Tryd.func23, Tryd.ntmps23
    go_wp2_with fail
    refine H.out.mono ?_
    rintro e1 w1 ⟨v1, rfl, h1, h2, h3⟩
    have HH := As.mk (And.intro h1 (And.intro h2 h3))
    clear h1 h2 h3
    go_wp2_with fail
    go_ret
    exact ⟨v1, rfl, HH.out⟩
set_option maxRecDepth 100000 in
set_option maxHeartbeats 2000000 in
theorem addN_any {w : World} {base base' base2 : Nat} {z v u : Value} {x y : Nat} (hz : Stq w base z) (hb : base ≤ w.heap.size) (hv : Nq w base' v x) (hu : Nq w base2 u y) (h : x + y < 18446744073709551616) :
    Calls Tryd.prog 23 #[z, v, u] w (GivesN w base z (x + y)) := by
  rcases hu.cases with ⟨B, d, rfl, rfl⟩ | ⟨g2, d, l2, rfl, hg2, hB2, hl2, hd, hy1, hy, h02⟩
  · rw [Nat.add_zero]
    exact addN_right0 hz hb hv
  · rcases hv.cases with ⟨A, c, rfl, rfl⟩ | ⟨g, c, l, rfl, hg, hB, hl, hc, hx1, hx, h0⟩
    · rw [Nat.zero_add]
      have H := As.mk (addN_right0 (B := A) (d := c) hz hb hu)
      clear hz hb hv hu hg2 hB2 hl2 hd hy1 hy h02 h
      go_enter Tryd.func23, Tryd.ntmps23
      go_wp2_with fail
      refine H.out.mono ?_
      rintro e1 w1 ⟨v1, rfl, h1, h2, h3⟩
      have HH := As.mk (And.intro h1 (And.intro h2 h3))
      clear h1 h2 h3
      go_wp2_with fail
      go_ret
      exact ⟨v1, rfl, HH.out⟩
    · have HZ := As.mk hz
      have HB := As.mk hb
      have BX := As.mk (And.intro hB (And.intro hl (And.intro hc h0)))
      have BY := As.mk (And.intro hB2 (And.intro hl2 (And.intro hd h02)))
      have HH := As.mk h
      have c1 : (1 : Int) ≤ (c : Int) := by omega
      have d1 : (1 : Int) ≤ (d : Int) := by omega
      have c2 : 1 ≤ c := by omega
      have d2 : 1 ≤ d := by omega
      clear hz hb hv hu hg2 hB2 hl2 hd hy1 hy h02 h hg hB hl hc hx1 hx h0
      go_enter Tryd.func23, Tryd.ntmps23
      go_wp2_with fail
      refine (make_any (n := 2) HZ.out HB.out (by omega) (by omega)).mono ?_
      rintro e1 w1 ⟨g1, k1, l1, rfl, hg1, hB1, hl1, hk1, hch1, ho1⟩
      have i1 : (1 : Int) ≤ (k1 : Int) := by omega
      have i2 : (2 : Int) ≤ (k1 : Int) := by omega
      have i3 : 1 ≤ k1 := by omega
      have H1 := As.mk (And.intro hg1 (And.intro hB1 (And.intro hl1 (And.intro hk1 (And.intro hch1 ho1)))))
      have hX : w1.cell? ⟨g, 0, none⟩ = some (.int .u64 (x : Int)) := by
        have h := (word_at (BX.out.1.chg hch1 (fun e => e)) (i := 0) (by have := BX.out.2; omega)).1
        rw [BX.out.2.2.2] at h
        exact h
      have hY : w1.cell? ⟨g2, 0, none⟩ = some (.int .u64 (y : Int)) := by
        have h := (word_at (BY.out.1.chg hch1 (fun e => e)) (i := 0) (by have := BY.out.2; omega)).1
        rw [BY.out.2.2.2] at h
        exact h
      have HXX := As.mk hX
      have HYY := As.mk hY
      clear hg1 hB1 hl1 hk1 hch1 ho1 hX hY
      go_wp2_with fail
      go_cut [9] (fun s9 wx => s9 = .int .u64 0 ∧ As (Blk wx g1 55 (nums .u64 (l1.set 0 ((x + y : Nat) : Int)))) ∧ As (Chg (fun b => b = g1) w1 wx))
      case first =>
        go_region_law (first
          | (go_simp
             refine (addVV_any (w := w1.drew) (x := x) (y := y) (X := ⟨g, 0, none⟩) (Y := ⟨g2, 0, none⟩) H1.out.2.1.drew (by have := H1.out; omega) HXX.out (add_lit0 _ _) HYY.out (add_lit0 _ _) HH.out).mono ?_
             rintro e2 w2 ⟨rfl, hB2, hc2⟩
             have B2 := As.mk hB2
             have C2 : As (Chg (fun b => b = g1) w1 w2) := ⟨(Chg.refl _ _).drew.trans hc2 (fun _ _ e => e)⟩
             clear hB2 hc2))
        all_goals
          go_wp2_with fail
          go_meet
          exact ⟨rfl, B2, C2⟩
      case rest =>
        obtain ⟨rfl, B2, C2⟩ := hcut
        have hll : (l1.set 0 ((x + y : Nat) : Int)).length = k1 := by rw [List.length_set]; exact H1.out.2.2.1.1
        obtain ⟨f1, f2⟩ := word_at B2.out (i := 1) (by rw [hll]; exact H1.out.2.2.2.1)
        have B3 := As.mk (word_set B2.out 1 0)
        have HLL := As.mk hll
        clear hll
        go_wp2_with fail
        have hk := H1.out.2.2.2.1
        refine (norm_any (base := base) (x := x + y) (k := 2) H1.out.1 B3.out ⟨by rw [List.length_set]; exact HLL.out, H1.out.2.2.1.2⟩ hk (.inr ⟨rfl, ?a1⟩) HH.out ?a0).mono ?_
        case a1 => rw [List.getD_eq_getElem?_getD, List.getElem?_set_self (by rw [HLL.out]; exact hk)]; rfl
        case a0 => rw [List.getD_eq_getElem?_getD, List.getElem?_set_ne (by omega), List.getElem?_set_self (by rw [H1.out.2.2.1.1]; exact i3)]; rfl
        rintro e3 w3 ⟨n3, rfl, hn3, rfl⟩
        have N3 := As.mk hn3
        clear hn3 hk
        go_wp2_with fail
        go_ret
        refine ⟨_, rfl, N3.out, ?_, fun b e => by have := own_slice e; subst this; exact H1.out.2.2.2.2.2⟩
        have ch := H1.out.2.2.2.2.1
        refine ((ch.mono (fun _ _ e => e.elim)).trans C2.out (fun b hb e => ?_)).setCell (p := ⟨g1, 1, none⟩) _ (fun hlt => ?_)
        · rcases H1.out.2.2.2.2.2 with h | h
          · rw [e]; exact h
          · omega
        · rcases H1.out.2.2.2.2.2 with h | h
          · exact h
          · exfalso; have h2 : g1 < w.heap.size := hlt; omega
/-- How two numbers are. -/
def cmpI (x y : Nat) : Int := if x < y then -1 else if y < x then 1 else 0
set_option maxRecDepth 100000 in
set_option maxHeartbeats 1000000 in
theorem cmpN_any {w : World} {base base2 : Nat} {v u : Value} {x y : Nat} (hv : Nq w base v x) (hu : Nq w base2 u y) :
    Calls Tryd.prog 24 #[v, u] w fun e w' => e = .returned (.int .i64 (cmpI x y)) ∧ ∃ q, w' = w.drewN q := by
  rcases hu.cases with ⟨B, d, rfl, rfl⟩ | ⟨g2, d, l2, rfl, hg2, hB2, hl2, hd, hy1, hy, h02⟩
  · rcases hv.cases with ⟨A, c, rfl, rfl⟩ | ⟨g, c, l, rfl, hg, hB, hl, hc, hx1, hx, h0⟩
    · clear hv hu
      go_enter Tryd.func24, Tryd.ntmps24
      go_wp2_with fail
      go_ret
      exact ⟨rfl, 0, rfl⟩
    · have e1 : cmpI x 0 = 1 := by unfold cmpI; rw [if_neg (by omega), if_pos (by omega)]
      rw [e1]
      clear hv hu hg hB hl hc hx1 hx h0 e1
      go_enter Tryd.func24, Tryd.ntmps24
      go_wp2_with fail
      go_ret
      exact ⟨rfl, 0, rfl⟩
  · rcases hv.cases with ⟨A, c, rfl, rfl⟩ | ⟨g, c, l, rfl, hg, hB, hl, hc, hx1, hx, h0⟩
    · have e1 : cmpI 0 y = -1 := by unfold cmpI; rw [if_pos (by omega)]
      rw [e1]
      clear hv hu hg2 hB2 hl2 hd hy1 hy h02 e1
      go_enter Tryd.func24, Tryd.ntmps24
      go_wp2_with fail
      go_ret
      exact ⟨rfl, 0, rfl⟩
    · obtain ⟨f0, _⟩ := word_at hB (i := 0) (by omega)
      obtain ⟨f2, _⟩ := word_at hB2 (i := 0) (by omega)
      rw [h0] at f0
      rw [h02] at f2
      clear hv hu hg hB hl hc hx1 hx h0 hg2 hB2 hl2 hd hy1 hy h02
      have hcases : ((x : Int) < (y : Int) ∧ ¬ (y : Int) < (x : Int) ∧ cmpI x y = -1) ∨ (¬ (x : Int) < (y : Int) ∧ (y : Int) < (x : Int) ∧ cmpI x y = 1) ∨ (¬ (x : Int) < (y : Int) ∧ ¬ (y : Int) < (x : Int) ∧ cmpI x y = 0) := by
        unfold cmpI
        rcases (by omega : x < y ∨ y < x ∨ x = y) with h | h | h
        · exact .inl ⟨by omega, by omega, if_pos h⟩
        · exact .inr (.inl ⟨by omega, by omega, by rw [if_neg (by omega), if_pos h]⟩)
        · exact .inr (.inr ⟨by omega, by omega, by rw [if_neg (by omega), if_neg (by omega)]⟩)
      rcases hcases with ⟨h1, h2, h3⟩ | ⟨h1, h2, h3⟩ | ⟨h1, h2, h3⟩
      · rw [h3]
        clear h3
        go_enter Tryd.func24, Tryd.ntmps24
        go_wp2_with fail
        go_loopw [7] (fun iv wr => iv = .int .i64 0 ∧ ∃ q, wr = w.drewN q) (fun _ _ => 0)
        case atStart => exact ⟨rfl, 0, rfl⟩
        case round =>
          obtain ⟨rfl, q, rfl⟩ := hrel
          go_wp2_with fail
          go_quiet (fail)
          go_wp2_with fail
          go_quiet (fail)
          go_wp2_with fail
          go_ret
          exact ⟨rfl, _, by simp only [World.drewN_drewN]; rfl⟩
      · rw [h3]
        clear h3
        go_enter Tryd.func24, Tryd.ntmps24
        go_wp2_with fail
        go_loopw [7] (fun iv wr => iv = .int .i64 0 ∧ ∃ q, wr = w.drewN q) (fun _ _ => 0)
        case atStart => exact ⟨rfl, 0, rfl⟩
        case round =>
          obtain ⟨rfl, q, rfl⟩ := hrel
          go_wp2_with fail
          go_quiet (fail)
          go_wp2_with fail
          go_quiet (fail)
          go_wp2_with fail
          go_quiet (fail)
          go_wp2_with fail
          go_ret
          exact ⟨rfl, _, by simp only [World.drewN_drewN]; rfl⟩
      · rw [h3]
        clear h3
        go_enter Tryd.func24, Tryd.ntmps24
        go_wp2_with fail
        go_loopw [7] (fun iv wr => iv = .int .i64 0 ∧ ∃ q, wr = w.drewN q) (fun _ _ => 0)
        case atStart => exact ⟨rfl, 0, rfl⟩
        case round =>
          obtain ⟨rfl, q, rfl⟩ := hrel
          go_wp2_with fail
          go_quiet (fail)
          go_wp2_with fail
          go_quiet (fail)
          go_wp2_with fail
          go_quiet (fail)
          go_wp2_with fail
          go_ret
          exact ⟨rfl, _, by simp only [World.drewN_drewN]; rfl⟩
end Go.Proofs.YthnebljgnmggaaaDoor
