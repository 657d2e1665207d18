/- The contracts of nat.sqr, nat.mul for numbers of at most one word. -/
import Derived.Test.YthnebljgnmggaaaDoorBgN
set_option linter.unusedVariables false
set_option linter.unusedSimpArgs false
namespace Go.Proofs.YthnebljgnmggaaaDoor
open Go.RowKit V
set_option maxRecDepth 100000 in
set_option maxHeartbeats 1000000 in
theorem sqr_any {w : World} {base : Nat} {z v : Value} {x : Nat} (hz : Stq w base z) (hb : base ≤ w.heap.size) (hv : Nq w base v x) (hx : x < 4294967296) :
    Calls Tryd.prog 26 #[z, .pointer none, v] w (GivesN w base z (x * x)) := by
  have HB := As.mk hb
  rcases hv.cases with ⟨A, c, rfl, rfl⟩ | ⟨g, c, l, rfl, hg, hB, hl, hc, hx1, _, h0⟩
  · obtain ⟨v', hcut, hn, ho, A', c', rfl⟩ := cut_zero hz
    have HN := As.mk (And.intro hn ho)
    clear hz hb hn ho hv
    go_enter_defers Tryd.func26, Tryd.ntmps26
    go_wp2_with fail
    refine ⟨_, results_tmp rfl _ _ _, ?_⟩
    exact ⟨_, rfl, HN.out.1, Chg.refl _ _, fun b e => .inl (HN.out.2 b e)⟩
  · obtain ⟨f0, _⟩ := word_at hB (i := 0) (by omega)
    rw [h0] at f0
    have HZ := As.mk hz
    have HX := As.mk (And.intro hx (mul32_lt hx hx))
    have HM := As.mk (mulWW_any x x hx hx)
    obtain ⟨p, hp⟩ : ∃ p, p = x * x := ⟨_, rfl⟩
    rw [← hp] at HX HM ⊢
    clear hz hb hv hg hB hl hc hx1 h0 hx hp
    go_enter_defers Tryd.func26, Tryd.ntmps26
    go_wp2_with fail
    refine (make_any (n := 2) HZ.out HB.out (by omega) (by omega)).mono ?_
    rintro e1 w1 ⟨g1, c1, l1, rfl, hg1, hB1, hl1, hc1, hch1, ho1⟩
    obtain ⟨q0, q1⟩ := word_at hB1 (i := 0) (by omega)
    obtain ⟨q2, q3⟩ := word_at hB1 (i := 1) (by omega)
    have H1 := As.mk (And.intro hg1 (And.intro hB1 (And.intro hl1 (And.intro hc1 (And.intro hch1 ho1)))))
    clear hg1 hB1 hl1 hc1 hch1 ho1
    go_wp2_with fail
    refine (HM.out w1).mono ?_
    rintro e2 w2 ⟨rfl, rfl⟩
    have B2 := word_set H1.out.2.1 1 0
    have B3 := As.mk (word_set B2 0 (p : Int))
    clear B2
    go_wp2_with fail
    have hc1 := H1.out.2.2.2.1
    have hl1 := H1.out.2.2.1
    refine (norm_any (base := base) (x := p) (k := 2) H1.out.1 B3.out (by rw [List.length_set, List.length_set]; exact hl1) hc1 (.inr ⟨rfl, ?a1⟩) HX.out.2 ?a0).mono ?_
    case a1 => rw [List.getD_eq_getElem?_getD, List.getElem?_set_ne (by omega), List.getElem?_set_self (by omega)]; rfl
    case a0 => rw [List.getD_eq_getElem?_getD, List.getElem?_set_self (by rw [List.length_set]; omega)]; rfl
    rintro e3 w3 ⟨n3, rfl, hn3, rfl⟩
    have N3 := As.mk hn3
    clear hn3 hc1 hl1
    go_wp2_with fail
    refine ⟨_, results_tmp rfl _ _ _, ?_⟩
    refine ⟨_, rfl, N3.out, ?_, fun b e => by have := own_slice e; subst this; exact H1.out.2.2.2.2.2⟩
    have hg : ∀ h : g1 < w.heap.size, z.ownBlock = some g1 := fun hlt => by
      rcases H1.out.2.2.2.2.2 with h | h
      · exact h
      · omega
    exact ((H1.out.2.2.2.2.1.mono (fun _ _ e => e.elim)).setCell (p := ⟨g1, 1, none⟩) _ hg).setCell (p := ⟨g1, 0, none⟩) _ hg
set_option maxRecDepth 100000 in
set_option maxHeartbeats 1000000 in
theorem mulN_zero {w : World} {base : Nat} {z : Value} {A B : Option Addr} {m c d : Nat} (hz : Stq w base z) (hm : m ≤ 1) :
    Calls Tryd.prog 27 #[z, .pointer none, .slice A m c, .slice B 0 d] w (GivesN w base z 0) := by
  obtain ⟨v', hcut, hn, ho, A', c', rfl⟩ := cut_zero hz
  have HN := As.mk (And.intro hn ho)
  clear hz hn ho
  rcases (by omega : m = 0 ∨ m = 1) with rfl | rfl
  · go_enter_defers Tryd.func27, Tryd.ntmps27
    go_wp2_with fail
    refine ⟨_, results_tmp rfl _ _ _, ?_⟩
    exact ⟨_, rfl, HN.out.1, Chg.refl _ _, fun b e => .inl (HN.out.2 b e)⟩
  · go_enter_defers Tryd.func27, Tryd.ntmps27
    go_wp2_with fail
    refine ⟨_, results_tmp rfl _ _ _, ?_⟩
    exact ⟨_, rfl, HN.out.1, Chg.refl _ _, fun b e => .inl (HN.out.2 b e)⟩
set_option maxRecDepth 100000 in
set_option maxHeartbeats 1000000 in
theorem mulN_any {w : World} {base base' base2 : Nat} {z v u : Value} {x y : Nat} (hz : Stq w base z) (hb : base ≤ w.heap.size) (hv : Nq w base' v x) (hu : Nq w base2 u y) (hx : x < 4294967296) (hy : y < 4294967296) :
    Calls Tryd.prog 27 #[z, .pointer none, v, u] w (GivesN w base z (x * y)) := by
  rcases hu.cases with ⟨A, c, rfl, rfl⟩ | ⟨g, c, l, rfl, hg, hB, hl, hc, hy1, _, h0⟩
  · rw [Nat.mul_zero]
    rcases hv.cases with ⟨B, d, rfl, rfl⟩ | ⟨g, d, l, rfl, _⟩
    · exact mulN_zero hz (by omega)
    · exact mulN_zero hz (by omega)
  · rcases hv.cases with ⟨B, d, rfl, rfl⟩ | ⟨g2, d, l2, rfl, hg2, hB2, hl2, hd, hx1, _, h02⟩
    · rw [Nat.zero_mul]
      have H := As.mk (mulN_zero (A := some ⟨g, 0, none⟩) (B := B) (m := 1) (c := c) (d := d) hz (by omega))
      clear hz hb hv hu hg hB hl hc hy1 h0 hx hy
      go_enter_defers Tryd.func27, Tryd.ntmps27
      go_wp2_with fail
      refine H.out.mono ?_
      rintro e1 w1 ⟨v1, rfl, h1, h2, h3⟩
      have HH := As.mk (And.intro h1 (And.intro h2 h3))
      clear h1 h2 h3
      go_wp2_with fail
      refine ⟨_, results_tmp rfl _ _ _, ?_⟩
      exact ⟨v1, rfl, HH.out⟩
    · obtain ⟨f0, _⟩ := word_at hB (i := 0) (by omega)
      rw [h0] at f0
      have H := As.mk (mulAddWW_any hz hb hB2 hl2 hd h02 hx hy hy1)
      clear hz hb hv hu hg hB hl hc hy1 h0 hx hy hg2 hB2 hl2 hd hx1 h02
      go_enter_defers Tryd.func27, Tryd.ntmps27
      go_wp2_with fail
      refine H.out.mono ?_
      rintro e1 w1 ⟨v1, rfl, h1, h2, h3⟩
      have HH := As.mk (And.intro h1 (And.intro h2 h3))
      clear h1 h2 h3
      go_wp2_with fail
      refine ⟨_, results_tmp rfl _ _ _, ?_⟩
      exact ⟨v1, rfl, HH.out⟩
end Go.Proofs.YthnebljgnmggaaaDoor
