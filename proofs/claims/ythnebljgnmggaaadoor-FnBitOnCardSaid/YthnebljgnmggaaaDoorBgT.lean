/- spec's Curve.Right and Curve.On, as FnBitOn calls them. -/
import Derived.Test.YthnebljgnmggaaaDoorBgR
set_option linter.unusedVariables false
set_option linter.unusedSimpArgs false
namespace Go.Proofs.YthnebljgnmggaaaDoor
open Go.RowKit V
def RightPost (P B : Int) (w : World) (e : Ending) (w' : World) : Prop := ∃ r, e = .returned (.bool r) ∧ (r = true → 5 ≤ P ∧ 0 ≤ B ∧ B < P) ∧ Chg NoB w w'
theorem sq_lt {x : Nat} (h : x < 65536) : x * x < 4294967296 := by
  have h1 : x * x ≤ 65535 * 65535 := Nat.mul_le_mul (by omega) (by omega)
  omega
set_option maxRecDepth 100000 in
set_option maxHeartbeats 1000000 in
theorem Right_any {w : World} {P B : Int} (hP : P < 65536) :
    Calls Tryd.prog 4 #[.agg #[.int .i64 P, .int .i64 0, .int .i64 B]] w (RightPost P B w) := by
  by_cases h5 : P < 5
  · clear hP
    go_enter Tryd.func4, Tryd.ntmps4
    go_wp2_with fail
    go_ret
    exact ⟨_, rfl, (fun e => nomatch e), (Chg.refl _ _).alloc _⟩
  · obtain ⟨p, rfl⟩ : ∃ p : Nat, P = (p : Int) := ⟨P.toNat, by omega⟩
    have e1 : ¬ (p : Int) < 5 := h5
    have e2 : ¬ (1048576 : Int) < (p : Int) := by omega
    have e3 : ¬ (p : Int) ≤ 0 := by omega
    have e4 : 0 < (p : Int) := by omega
    have HP : As (2 ≤ p ∧ p < 65536) := ⟨by omega, by omega⟩
    have HPP : As (5 ≤ (p : Int)) := ⟨by omega⟩
    clear h5 hP
    by_cases hB : B < 0
    · go_enter Tryd.func4, Tryd.ntmps4
      go_wp2_with fail
      refine (IsPrime_any HP.out.1 HP.out.2).mono ?_
      rintro e5 w5 ⟨r5, rfl, rfl⟩
      cases r5
      all_goals
        go_wp2_with fail
        go_ret
        exact ⟨_, rfl, (fun e => nomatch e), (Chg.refl _ _).alloc _⟩
    · by_cases hB2 : B < (p : Int)
      · obtain ⟨b, rfl⟩ : ∃ b : Nat, B = (b : Int) := ⟨B.toNat, by omega⟩
        have e6 : ¬ (b : Int) < 0 := hB
        have e7 : ¬ (p : Int) ≤ (b : Int) := by omega
        have HB : As (0 ≤ (b : Int) ∧ (b : Int) < (p : Int)) := ⟨by omega, hB2⟩
        have hb : b < 65536 := by have := HP.out; omega
        have hbb := sq_lt hb
        obtain ⟨bb, hbb2⟩ : ∃ bb, bb = b * b := ⟨_, rfl⟩
        have m1 : IntKind.i64.wrap ((b : Int) * (b : Int)) = (bb : Int) := by rw [hbb2]; have := wrapI (b * b) (by omega); rwa [Int.natCast_mul] at this ⊢
        obtain ⟨n, hn⟩ : ∃ n, n = bb % p := ⟨_, rfl⟩
        have t1 : (bb : Int).tmod (p : Int) = (n : Int) := by rw [hn]; exact (Int.ofNat_tmod bb p).symm
        have hnp : n < p := by rw [hn]; exact Nat.mod_lt _ (by have := HP.out; omega)
        have m0 := wrapI n (by have := HP.out; omega)
        obtain ⟨k, hk⟩ : ∃ k, k = 27 * n := ⟨_, rfl⟩
        have hk2 : k < 65536 * 27 := by have := HP.out; omega
        have m2 : IntKind.i64.wrap (27 * (n : Int)) = (k : Int) := by rw [show (27 * (n : Int)) = ((27 * n : Nat) : Int) by omega, ← hk]; exact wrapI k (by omega)
        have m3 := wrapI k (by omega)
        have t2 : ¬ (p : Int) = 0 := by omega
        have HW := As.mk (fun w' : World => Power_any (w := w') HP.out.1 HP.out.2)
        obtain ⟨v, hv⟩ : ∃ v, v = k % p := ⟨_, rfl⟩
        have HM := fun w' : World => mod_any (w := w') (a := k) (m := p) (by omega) (by have := HP.out; omega) (by have := HP.out; omega)
        rw [← hv] at HM
        have HM := As.mk HM
        clear hB hB2 hb hbb hbb2 hn hnp hk hk2 hv
        go_enter Tryd.func4, Tryd.ntmps4
        go_wp2_with fail
        refine (IsPrime_any HP.out.1 HP.out.2).mono ?_
        rintro e5 w5 ⟨r5, rfl, rfl⟩
        cases r5
        · go_wp2_with fail
          go_ret
          exact ⟨_, rfl, (fun e => nomatch e), (Chg.refl _ _).alloc _⟩
        · go_wp2_with fail
          go_quiet (first | exact Calls.quiet_of_same (HW.out _) | exact Calls.quiet_of_same (HM.out _))
          go_wp2_with fail
          go_ret
          exact ⟨_, rfl, fun _ => ⟨HPP.out, HB.out⟩, ((Chg.refl _ _).alloc _).drewN _⟩
      · have e6 : (p : Int) ≤ B := by omega
        go_enter Tryd.func4, Tryd.ntmps4
        go_wp2_with fail
        refine (IsPrime_any HP.out.1 HP.out.2).mono ?_
        rintro e5 w5 ⟨r5, rfl, rfl⟩
        cases r5
        all_goals
          go_wp2_with fail
          go_ret
          exact ⟨_, rfl, (fun e => nomatch e), (Chg.refl _ _).alloc _⟩
set_option maxRecDepth 100000 in
set_option maxHeartbeats 1000000 in
theorem On_any {w : World} {p b x y : Nat} (hp2 : 2 ≤ p) (hp : p < 65536) (hb : b < p) (hx : x < p) (hy : y < p) :
    Calls Tryd.prog 6 #[.agg #[.int .i64 p, .int .i64 0, .int .i64 b], .int .i64 x, .int .i64 y] w fun e w' => e = .returned (.bool (decide ((x * x * x + b) % p = y * y % p))) ∧ Chg NoB w w' := by
  have hxx := sq_lt (x := x) (by omega)
  have hyy := sq_lt (x := y) (by omega)
  have plain : (x * x % p * x + b) % p = (x * x * x + b) % p := by rw [Nat.add_mod, Nat.mul_mod, Nat.mod_mod, ← Nat.mul_mod, ← Nat.add_mod]
  rw [← plain]
  clear plain
  obtain ⟨yy, hyy2⟩ : ∃ yy, yy = y * y := ⟨_, rfl⟩
  obtain ⟨xx, hxx2⟩ : ∃ xx, xx = x * x := ⟨_, rfl⟩
  have m1 : IntKind.i64.wrap ((y : Int) * (y : Int)) = (yy : Int) := by rw [hyy2]; have := wrapI (y * y) (by omega); rwa [Int.natCast_mul] at this ⊢
  have m2 : IntKind.i64.wrap ((x : Int) * (x : Int)) = (xx : Int) := by rw [hxx2]; have := wrapI (x * x) (by omega); rwa [Int.natCast_mul] at this ⊢
  rw [← hyy2, ← hxx2]
  obtain ⟨u, hu⟩ : ∃ u, u = yy % p := ⟨_, rfl⟩
  obtain ⟨n, hn⟩ : ∃ n, n = xx % p := ⟨_, rfl⟩
  rw [← hu, ← hn]
  have t1 : (yy : Int).tmod (p : Int) = (u : Int) := by rw [hu]; exact (Int.ofNat_tmod yy p).symm
  have t2 : (xx : Int).tmod (p : Int) = (n : Int) := by rw [hn]; exact (Int.ofNat_tmod xx p).symm
  have hup : u < p := by rw [hu]; exact Nat.mod_lt _ (by omega)
  have hnp : n < p := by rw [hn]; exact Nat.mod_lt _ (by omega)
  have m0 := wrapI u (by omega)
  have m3 := wrapI n (by omega)
  have hnx : n * x ≤ 65535 * 65535 := Nat.mul_le_mul (by omega) (by omega)
  obtain ⟨nx, hnx2⟩ : ∃ nx, nx = n * x := ⟨_, rfl⟩
  have m4 : IntKind.i64.wrap ((n : Int) * (x : Int)) = (nx : Int) := by rw [hnx2]; have := wrapI (n * x) (by omega); rwa [Int.natCast_mul] at this ⊢
  rw [← hnx2]
  rw [← hnx2] at hnx
  have m5 := wrapI nx (by omega)
  obtain ⟨k, hk⟩ : ∃ k, k = nx + b := ⟨_, rfl⟩
  have m6 : IntKind.i64.wrap ((nx : Int) + (b : Int)) = (k : Int) := by rw [show (nx : Int) + (b : Int) = ((nx + b : Nat) : Int) by omega, ← hk]; exact wrapI k (by omega)
  rw [← hk]
  obtain ⟨v, hv⟩ : ∃ v, v = k % p := ⟨_, rfl⟩
  have HM := fun w' : World => mod_any (w := w') (a := k) (m := p) (by omega) (by omega) (by omega)
  rw [← hv] at HM ⊢
  have HM := As.mk HM
  have t3 : ¬ (p : Int) = 0 := by omega
  have e1 : ¬ (x : Int) < 0 := by omega
  have e2 : ¬ (y : Int) < 0 := by omega
  have e3 : ¬ (p : Int) ≤ (x : Int) := by omega
  have e4 : ¬ (p : Int) ≤ (y : Int) := by omega
  by_cases huv : v = u
  · rw [decide_eq_true huv]
    subst huv
    clear hxx hyy hyy2 hxx2 hu hn hup hnp hnx hnx2 hk hv hp2 hp hb hx hy
    go_enter Tryd.func6, Tryd.ntmps6
    go_wp2_with fail
    go_quiet (exact Calls.quiet_of_same (HM.out _))
    go_wp2_with fail
    go_ret
    exact ⟨rfl, ((Chg.refl _ _).alloc _).drewN _⟩
  · rw [decide_eq_false huv]
    have e5 : ¬ (u : Int) = (v : Int) := by omega
    clear hxx hyy hyy2 hxx2 hu hn hup hnp hnx hnx2 hk hv hp2 hp hb hx hy huv
    go_enter Tryd.func6, Tryd.ntmps6
    go_wp2_with fail
    go_quiet (exact Calls.quiet_of_same (HM.out _))
    go_wp2_with fail
    go_ret
    exact ⟨congrArg (fun t => Ending.returned (Value.bool t)) (beq_eq_false_iff_ne.2 e5), ((Chg.refl _ _).alloc _).drewN _⟩
end Go.Proofs.YthnebljgnmggaaaDoor
