/- The walk of FnBitOn. -/
import Derived.Test.YthnebljgnmggaaaDoorBgQ
import Derived.Test.YthnebljgnmggaaaDoorBgT
set_option linter.unusedVariables false
set_option linter.unusedSimpArgs false
namespace Go.Proofs.YthnebljgnmggaaaDoor
open Go.RowKit V
set_option maxRecDepth 100000 in
set_option maxHeartbeats 2000000 in
theorem bitOn_walk0 {P B X Y : Int} {W : World} :
    Calls Tryd.prog 3 #[.int .i64 P, .int .i64 B, .int .i64 X, .int .i64 Y] W fun e w' => e = .returned (.bool true) ∧ Chg NoB W w' := by
  by_cases hP : P < 65536
  · have e0 : ¬ (65536 : Int) ≤ P := by omega
    go_enter Tryd.func3, Tryd.ntmps3
    go_wp2_with fail
    refine (Right_any hP).mono ?_
    rintro e1 w1 ⟨r, rfl, hr, hc⟩
    cases r
    · have HC : As (Chg NoB W w1) := ⟨((Chg.refl _ W).alloc _).trans hc (fun _ _ e => e)⟩
      clear hr
      go_wp2_with fail
      go_ret
      exact ⟨rfl, HC.out⟩
    · obtain ⟨h5, hB0, hB1⟩ := hr rfl
      obtain ⟨p, rfl⟩ : ∃ p : Nat, P = (p : Int) := ⟨P.toNat, by omega⟩
      obtain ⟨b, rfl⟩ : ∃ b : Nat, B = (b : Int) := ⟨B.toNat, by omega⟩
      have HC : As (Chg NoB W w1) := ⟨((Chg.refl _ W).alloc _).trans hc (fun _ _ e => e)⟩
      have k1 := ((Blk.new W 23 [.int .i64 (p : Int), .int .i64 0, .int .i64 (b : Int)]).chg hc (fun e => e))
      have HK := As.mk k1
      have HP : As (5 ≤ p ∧ p < 65536 ∧ b < p) := ⟨by omega, by omega, by omega⟩
      clear hr hc h5 hB0 hB1 hP e0
      by_cases hx : X < 0
      · clear k1
        go_wp2_with fail
        go_ret
        exact ⟨rfl, HC.out⟩
      · by_cases hx2 : (p : Int) ≤ X
        · clear k1
          go_wp2_with fail
          go_ret
          exact ⟨rfl, HC.out⟩
        · by_cases hy : Y < 0
          · clear k1
            go_wp2_with fail
            go_ret
            exact ⟨rfl, HC.out⟩
          · by_cases hy2 : (p : Int) ≤ Y
            · clear k1
              go_wp2_with fail
              go_ret
              exact ⟨rfl, HC.out⟩
            · obtain ⟨x, rfl⟩ : ∃ x : Nat, X = (x : Int) := ⟨X.toNat, by omega⟩
              obtain ⟨y, rfl⟩ : ∃ y : Nat, Y = (y : Int) := ⟨Y.toNat, by omega⟩
              have HX : As (x < p ∧ y < p) := ⟨by omega, by omega⟩
              clear k1
              go_wp2_with fail
              refine (BitOn_any (by have := HP.out; omega) ⟨HP.out.2.1, by have := HP.out; omega, by have := HP.out; have := HX.out; omega, by have := HP.out; have := HX.out; omega⟩).mono ?_
              rintro e2 w2 ⟨rfl, hc2⟩
              have HC2 := As.mk hc2
              have hb2 := HK.out.chg hc2 (fun e => e)
              have z0 := hb2.cell 0
              have z1 := hb2.cell 1
              have z2 := hb2.cell 2
              simp only [List.getElem?_cons_zero, List.getElem?_cons_succ] at z0 z1 z2
              have H := fun w' : World => On_any (w := w') (p := p) (b := b) (x := x) (y := y) (by have := HP.out; omega) HP.out.2.1 HP.out.2.2 HX.out.1 HX.out.2
              obtain ⟨t, ht⟩ : ∃ t, t = decide ((x * x * x + b) % p = y * y % p) := ⟨_, rfl⟩
              rw [← ht] at H ⊢
              have H := As.mk H
              clear hc2 hb2 ht
              go_wp2_with fail
              refine (H.out _).mono ?_
              rintro e3 w3 ⟨rfl, hc3⟩
              have HC3 : As (Chg NoB W w3) := ⟨(HC.out.trans HC2.out (fun _ _ e => e)).trans hc3 (fun _ _ e => e)⟩
              clear hc3
              cases t
              all_goals
                go_wp2_with fail
                go_ret
                exact ⟨rfl, HC3.out⟩
  · have e0 : (65536 : Int) ≤ P := by omega
    go_enter Tryd.func3, Tryd.ntmps3
    go_wp2_with fail
    go_ret
    exact ⟨rfl, (Chg.refl _ W).alloc _⟩
theorem bitOn_walk (P B X Y : Int) (W : World) (h1 : (Lit.int .i64 P).wf = true) (h2 : (Lit.int .i64 B).wf = true) (h3 : (Lit.int .i64 X).wf = true) (h4 : (Lit.int .i64 Y).wf = true) :
    Calls Tryd.prog 3 #[.int .i64 P, .int .i64 B, .int .i64 X, .int .i64 Y] W fun e w' => e = .returned (.bool true) ∧ Below W.heap.size W w' :=
  bitOn_walk0.mono fun e w' h => ⟨h.1, h.2.below (Nat.le_refl _) (fun _ _ e => e)⟩
end Go.Proofs.YthnebljgnmggaaaDoor
