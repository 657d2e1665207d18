/- The contracts of math/bits.Mul64 and Mul for numbers below 2^32, Add; big.mulWW, mulAddWWW_g. -/
import Derived.Test.YthnebljgnmggaaaDoorBgW
import Derived.Laws.Bits64b
import Derived.Laws.Externs
set_option linter.unusedVariables false
set_option linter.unusedSimpArgs false
namespace Go.Proofs.YthnebljgnmggaaaDoor
open Go.RowKit V
theorem mask32 (a : Nat) (ha : a < 4294967296) : Go.bits .and .u64 (a : Int) 4294967295 = (a : Int) := by
  have h := bits_and_u64_nat a 4294967295 (by omega) (by omega)
  have e : a &&& 4294967295 = a % 4294967296 := Nat.and_two_pow_sub_one_eq_mod a 32
  rw [e, Nat.mod_eq_of_lt ha] at h
  exact h
theorem wrapU (a : Nat) (ha : a < 18446744073709551616) : IntKind.u64.wrap (a : Int) = (a : Int) := by rw [IntKind.wrap_u64]; omega
theorem mul32_lt {x y : Nat} (hx : x < 4294967296) (hy : y < 4294967296) : x * y < 18446744073709551616 := by
  have h1 : x * y ≤ 4294967295 * y := Nat.mul_le_mul_right _ (by omega)
  omega
set_option maxRecDepth 100000 in
set_option maxHeartbeats 1000000 in
theorem mul64_any (x y : Nat) (hx : x < 4294967296) (hy : y < 4294967296) (w : World) :
    Calls Tryd.prog 74 #[.int .u64 x, .int .u64 y] w fun e w' => e = .returned (.tuple #[.int .u64 0, .int .u64 ((x * y : Nat) : Int)]) ∧ w' = w := by
  have hp := mul32_lt hx hy
  obtain ⟨p, hpd⟩ : ∃ p, p = x * y := ⟨_, rfl⟩
  have m0 : (x : Int) * (y : Int) = (p : Int) := by rw [hpd]; exact (Int.natCast_mul x y).symm
  have m1 := mask32 x hx
  have m2 := mask32 y hy
  have m3 : (x : Int) / 4294967296 = 0 := by omega
  have m4 : (y : Int) / 4294967296 = 0 := by omega
  rw [← hpd] at hp ⊢
  have m5 := wrapU p hp
  obtain ⟨q, hq⟩ : ∃ q, q = p / 4294967296 := ⟨_, rfl⟩
  have m6 : (p : Int) / 4294967296 = (q : Int) := by omega
  have hq2 : q < 4294967296 := by omega
  have m7 := mask32 q hq2
  have m8 : (q : Int) / 4294967296 = 0 := by omega
  have m9 := wrapU q (by omega)
  clear hp hpd hq hq2 hx hy
  go_enter Tryd.func74, Tryd.ntmps74
  go_wp2_with fail
  go_ret2
  exact ⟨rfl, rfl⟩
set_option maxRecDepth 100000 in
theorem mul_any (x y : Nat) (hx : x < 4294967296) (hy : y < 4294967296) (w : World) :
    Calls Tryd.prog 55 #[.int .u64 x, .int .u64 y] w fun e w' => e = .returned (.tuple #[.int .u64 0, .int .u64 ((x * y : Nat) : Int)]) ∧ w' = w := by
  have H := As.mk (mul64_any x y hx hy w)
  obtain ⟨p, hpd⟩ : ∃ p, p = x * y := ⟨_, rfl⟩
  rw [← hpd] at H ⊢
  clear hpd hx hy
  go_enter Tryd.func55, Tryd.ntmps55
  go_wp2_with fail
  refine H.out.mono ?_
  rintro e w1 ⟨rfl, rfl⟩
  go_wp2_with fail
  go_ret2
  exact ⟨rfl, rfl⟩
set_option maxRecDepth 100000 in
theorem mulWW_any (x y : Nat) (hx : x < 4294967296) (hy : y < 4294967296) (w : World) :
    Calls Tryd.prog 36 #[.int .u64 x, .int .u64 y] w fun e w' => e = .returned (.tuple #[.int .u64 0, .int .u64 ((x * y : Nat) : Int)]) ∧ w' = w := by
  have H := As.mk (mul_any x y hx hy w)
  obtain ⟨p, hpd⟩ : ∃ p, p = x * y := ⟨_, rfl⟩
  rw [← hpd] at H ⊢
  clear hpd hx hy
  go_enter Tryd.func36, Tryd.ntmps36
  go_wp2_with fail
  refine H.out.mono ?_
  rintro e w1 ⟨rfl, rfl⟩
  go_wp2_with fail
  go_ret2
  exact ⟨rfl, rfl⟩
theorem add64_run (x y : Nat) (h : x + y < 18446744073709551616) (w : World) :
    (callFunc 70 #[.int .u64 x, .int .u64 y, .int .u64 0]).run Tryd.prog w = .ok (.value (.tuple #[.int .u64 ((x + y : Nat) : Int), .int .u64 0])) w := by
  rw [run_callFunc_extern (e := add64Entry) Tryd.func70 (by kernel_rfl) (by kernel_rfl) (by kernel_rfl) (by kernel_rfl), run_add64 (x : Int) (y : Int) 0 (by omega) (by omega) (by omega) (by omega)]
  have e1 : ((x : Int) + (y : Int) + 0) % 18446744073709551616 = ((x + y : Nat) : Int) := by omega
  have e2 : ((x : Int) + (y : Int) + 0) / 18446744073709551616 = 0 := by omega
  rw [e1, e2]
  rfl
set_option maxRecDepth 100000 in
/-- bits.Add without a carry. -/
theorem add_any (x y : Nat) (h : x + y < 18446744073709551616) (w : World) :
    Calls Tryd.prog 52 #[.int .u64 x, .int .u64 y, .int .u64 0] w fun e w' => e = .returned (.tuple #[.int .u64 ((x + y : Nat) : Int), .int .u64 0]) ∧ w' = w := by
  have H := add64_run x y h
  obtain ⟨p, hpd⟩ : ∃ p, p = x + y := ⟨_, rfl⟩
  rw [← hpd] at H ⊢
  clear hpd h
  go_enter Tryd.func52, Tryd.ntmps52
  go_wp2_with fail
  go_ret2
  exact ⟨rfl, rfl⟩
set_option maxRecDepth 100000 in
/-- x * y + c in two words, for numbers whose product fits one. -/
theorem mulAdd_any (x y c : Nat) (hx : x < 4294967296) (hy : y < 4294967296) (h : x * y + c < 18446744073709551616) (w : World) :
    Calls Tryd.prog 86 #[.int .u64 x, .int .u64 y, .int .u64 c] w fun e w' => e = .returned (.tuple #[.int .u64 0, .int .u64 ((x * y + c : Nat) : Int)]) ∧ w' = w := by
  have H := As.mk (mul_any x y hx hy w)
  have H2 := As.mk (add_any (x * y) c h)
  obtain ⟨p, hpd⟩ : ∃ p, p = x * y := ⟨_, rfl⟩
  rw [← hpd] at H H2 ⊢
  obtain ⟨r, hrd⟩ : ∃ r, r = p + c := ⟨_, rfl⟩
  rw [← hrd] at H2 ⊢
  clear hpd hx hy h hrd
  go_enter Tryd.func86, Tryd.ntmps86
  go_wp2_with fail
  refine H.out.mono ?_
  rintro e w1 ⟨rfl, rfl⟩
  go_wp2_with fail
  refine (H2.out w1).mono ?_
  rintro e w2 ⟨rfl, rfl⟩
  go_wp2_with fail
  go_ret2
  exact ⟨rfl, rfl⟩
/-- What a function leaves that writes one word into a row. -/
def WordTo (w : World) (g : Nat) (l : List Int) (x : Nat) (r : Nat) (e : Ending) (w' : World) : Prop :=
  e = .returned (.int .u64 (r : Int)) ∧ Blk w' g 55 (nums .u64 (l.set 0 (x : Int))) ∧ Chg (fun b => b = g) w w'
set_option maxRecDepth 100000 in
set_option maxHeartbeats 1000000 in
theorem mulAddV_any {w : World} {g c d : Nat} {l : List Int} {X : Addr} {x y r : Nat} (hB : Blk w g 55 (nums .u64 l)) (hl : 1 ≤ l.length) (hX : w.cell? X = some (.int .u64 (x : Int))) (hXs : X.add 0 = X) (hx : x < 4294967296) (hy : y < 4294967296) (h : x * y + r < 18446744073709551616) :
    Calls Tryd.prog 77 #[.slice (some ⟨g, 0, none⟩) 1 c, .slice (some X) 1 d, .int .u64 y, .int .u64 r] w (WordTo w g l (x * y + r) 0) := by
  obtain ⟨f0, f1⟩ := word_at hB (i := 0) (by omega)
  have B2 := As.mk (word_set hB 0 ((x * y + r : Nat) : Int))
  have H := As.mk (mulAdd_any x y r hx hy h)
  obtain ⟨p, hpd⟩ : ∃ p, p = x * y + r := ⟨_, rfl⟩
  rw [← hpd] at H B2 ⊢
  clear hpd hx hy h hB hl
  go_enter Tryd.func77, Tryd.ntmps77
  go_wp2_with fail
  go_loopw [8, 19] (fun cv iv wr => (cv = .int .u64 r ∧ iv = .int .i64 0 ∧ wr = w) ∨ (cv = .int .u64 0 ∧ iv = .int .i64 1 ∧ wr = w.setCell ⟨g, 0, none⟩ (.int .u64 (p : Int)))) (fun _ iv _ => 1 - (intOf iv).toNat)
  case atStart => exact .inl ⟨rfl, rfl, rfl⟩
  case round =>
    rcases hrel with ⟨rfl, rfl, rfl⟩ | ⟨rfl, rfl, rfl⟩
    · go_wp2_with fail
      refine (H.out wr).mono ?_
      rintro e w1 ⟨rfl, rfl⟩
      go_wp2_with fail
      go_roundw
      case rel => exact .inr ⟨rfl, by first | rfl | go_num, by first | rfl | trivial⟩
      case measure => simp [intOf]
    · go_wp2_with fail
      go_ret
      exact ⟨rfl, B2.out, (Chg.refl _ _).setCell (p := ⟨g, 0, none⟩) _ (fun _ => rfl)⟩
set_option maxRecDepth 100000 in
theorem mulAddVWW_any {w : World} {g c d : Nat} {l : List Int} {X : Addr} {x y r : Nat} (hB : Blk w g 55 (nums .u64 l)) (hl : 1 ≤ l.length) (hX : w.cell? X = some (.int .u64 (x : Int))) (hXs : X.add 0 = X) (hx : x < 4294967296) (hy : y < 4294967296) (h : x * y + r < 18446744073709551616) :
    Calls Tryd.prog 59 #[.slice (some ⟨g, 0, none⟩) 1 c, .slice (some X) 1 d, .int .u64 y, .int .u64 r] w (WordTo w g l (x * y + r) 0) := by
  have H := As.mk (mulAddV_any (c := c) (d := d) hB hl hX hXs hx hy h)
  clear hB hl hX hXs hx hy h
  go_enter Tryd.func59, Tryd.ntmps59
  go_wp2_with fail
  refine H.out.mono ?_
  rintro e w1 ⟨rfl, h2, h3⟩
  have H2 := As.mk (And.intro h2 h3)
  clear h2 h3
  go_wp2_with fail
  go_ret
  exact ⟨rfl, H2.out⟩
end Go.Proofs.YthnebljgnmggaaaDoor
