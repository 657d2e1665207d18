/- spec's mod, Power, IsPrime, as FnBitOn calls them. -/
import Derived.Test.YthnebljgnmggaaaDoorProg
import Derived.Test.YthnebljgnmggaaaDoorV3
import Derived.Test.YthnebljgnmggaaaDoorPure
import Derived.Deep.DeepCutAuto
set_option linter.unusedVariables false
set_option linter.unusedSimpArgs false
namespace Go.Proofs.YthnebljgnmggaaaDoor
open Go.RowKit V
theorem wrapI (a : Nat) (ha : a < 9223372036854775808) : IntKind.i64.wrap (a : Int) = (a : Int) := by simp [IntKind.wrap, IntKind.bits, IntKind.signed]; omega
set_option maxRecDepth 100000 in
theorem mod_any {w : World} {a m : Nat} (ha : a < 9223372036854775808) (hm : 1 ≤ m) (hm2 : m < 9223372036854775808) :
    Calls Tryd.prog 8 #[.int .i64 a, .int .i64 m] w fun e w' => e = .returned (.int .i64 ((a % m : Nat) : Int)) ∧ w' = w := by
  have t1 : (a : Int).tmod (m : Int) = ((a % m : Nat) : Int) := (Int.ofNat_tmod a m).symm
  have t2 : ¬ (m : Int) = 0 := by omega
  obtain ⟨r, hr⟩ : ∃ r, r = a % m := ⟨_, rfl⟩
  rw [← hr] at t1 ⊢
  have hrm : r < m := by rw [hr]; exact Nat.mod_lt _ (by omega)
  have t3 := wrapI r (by omega)
  have t4 : ¬ (r : Int) < 0 := by omega
  clear hr hrm ha hm hm2
  go_enter Tryd.func8, Tryd.ntmps8
  go_wp2_with fail
  go_ret
  exact ⟨rfl, rfl⟩
set_option maxRecDepth 100000 in
theorem Power_any {w : World} {m : Nat} (hm : 2 ≤ m) (hm2 : m < 65536) :
    Calls Tryd.prog 9 #[.int .i64 0, .int .i64 3, .int .i64 m] w fun e w' => e = .returned (.int .i64 0) ∧ w' = w := by
  have t1 : (1 : Int).tmod (m : Int) = 1 := by
    have := Int.ofNat_tmod 1 m
    rw [Nat.mod_eq_of_lt (by omega : 1 < m)] at this
    exact this.symm
  have t0 : (0 : Int).tmod (m : Int) = 0 := Int.zero_tmod _
  have t2 : ¬ (m : Int) = 0 := by omega
  have H := As.mk (mod_any (w := w) (a := 0) (m := m) (by omega) (by omega) (by omega))
  rw [Nat.zero_mod] at H
  clear hm hm2
  go_enter Tryd.func9, Tryd.ntmps9
  go_wp2_with fail
  refine H.out.mono ?_
  rintro e1 w1 ⟨rfl, rfl⟩
  clear H
  go_wp2_with fail
  go_loopw [0, 1, 7] (fun xv ev rv wr => wr = w1 ∧ xv = .int .i64 0 ∧ ((ev = .int .i64 3 ∧ rv = .int .i64 1) ∨ (ev = .int .i64 1 ∧ rv = .int .i64 0) ∨ (ev = .int .i64 0 ∧ rv = .int .i64 0))) (fun _ ev _ _ => (intOf ev).toNat)
  case atStart => exact ⟨rfl, rfl, .inl ⟨rfl, rfl⟩⟩
  case round =>
    obtain ⟨rfl, rfl, ⟨rfl, rfl⟩ | ⟨rfl, rfl⟩ | ⟨rfl, rfl⟩⟩ := hrel
    · go_wp2_with fail
      go_roundw
      case rel => exact ⟨by first | rfl | trivial, by first | rfl | trivial, .inr (.inl ⟨by first | rfl | trivial, by first | rfl | trivial⟩)⟩
      case measure => simp [intOf]
    · go_wp2_with fail
      go_roundw
      case rel => exact ⟨by first | rfl | trivial, by first | rfl | trivial, .inr (.inr ⟨by first | rfl | trivial, by first | rfl | trivial⟩)⟩
      case measure => simp [intOf]
    · go_wp2_with fail
      go_ret
      exact ⟨rfl, rfl⟩
set_option maxRecDepth 100000 in
set_option maxHeartbeats 1000000 in
theorem IsPrime_any {w : World} {p : Nat} (hm : 2 ≤ p) (hm2 : p < 65536) :
    Calls Tryd.prog 7 #[.int .i64 p] w fun e w' => ∃ r, e = .returned (.bool r) ∧ w' = w := by
  have e1 : ¬ (p : Int) < 2 := by omega
  have HP := As.mk (And.intro hm hm2)
  clear hm hm2
  go_enter Tryd.func7, Tryd.ntmps7
  go_wp2_with fail
  go_loopw [3] (fun dv wr => wr = w ∧ ∃ d : Nat, dv = .int .i64 (d : Int) ∧ 2 ≤ d ∧ d ≤ 256) (fun dv _ => 256 - (intOf dv).toNat)
  case atStart => exact ⟨rfl, 2, rfl, by omega, by omega⟩
  case round =>
    obtain ⟨rfl, d, rfl, hd1, hd2⟩ := hrel
    have hdd : d * d ≤ 65536 := Nat.mul_le_mul hd2 hd2
    have m1 : IntKind.i64.wrap ((d : Int) * (d : Int)) = ((d * d : Nat) : Int) := by
      have := wrapI (d * d) (by omega)
      rwa [Int.natCast_mul] at this ⊢
    by_cases hle : d * d ≤ p
    · have m2 : ((d * d : Nat) : Int) ≤ (p : Int) := by omega
      have hd3 : d < 256 := by
        rcases Nat.lt_or_ge d 256 with h | h
        · exact h
        · have : 256 * 256 ≤ d * d := Nat.mul_le_mul h h
          have := HP.out
          omega
      have t1 : (p : Int).tmod (d : Int) = ((p % d : Nat) : Int) := (Int.ofNat_tmod p d).symm
      obtain ⟨r, hr⟩ : ∃ r, r = p % d := ⟨_, rfl⟩
      have hrd : r < d := by rw [hr]; exact Nat.mod_lt _ (by omega)
      rw [← hr] at t1
      have t2 : ¬ (d : Int) = 0 := by omega
      have t3 := wrapI r (by omega)
      have t4 : IntKind.i64.wrap ((d : Int) + 1) = ((d + 1 : Nat) : Int) := wrapI (d + 1) (by omega)
      obtain ⟨dd, hdd2⟩ : ∃ dd, dd = d * d := ⟨_, rfl⟩
      rw [← hdd2] at m1 m2
      have HD := As.mk (And.intro hd1 (And.intro hd3 hrd))
      by_cases hr0 : r = 0
      · subst hr0
        clear hr hdd hle hd1 hd2 hd3 hrd hdd2
        go_wp2_with fail
        go_ret
        exact ⟨_, rfl, rfl⟩
      · have t5 : ¬ (r : Int) = 0 := by omega
        clear hr hdd hle hd1 hd2 hd3 hrd hdd2 hr0
        go_wp2_with fail
        go_roundw
        case rel => exact ⟨by first | rfl | trivial, d + 1, by first | rfl | trivial | simp [t4], by have := HD.out; omega, by have := HD.out; omega⟩
        case measure => have := HD.out; simp [intOf, t4]; omega
    · have m2 : ¬ ((d * d : Nat) : Int) ≤ (p : Int) := by omega
      obtain ⟨dd, hdd2⟩ : ∃ dd, dd = d * d := ⟨_, rfl⟩
      rw [← hdd2] at m1 m2
      clear hdd hle hd1 hd2 hdd2
      go_wp2_with fail
      go_ret
      first | exact ⟨_, rfl, rfl⟩ | exact ⟨.inr rfl, rfl⟩
end Go.Proofs.YthnebljgnmggaaaDoor
