/- Plain facts on shifts of a row of bits. -/
import Derived.Test.YtlpningplmbnhaaDoorPure
set_option linter.unusedVariables false
set_option linter.unusedSimpArgs false
namespace Go.Proofs.YtlpningplmbnhaaDoor.V
open Go.RowKit

/-- Byte i as a natural number; 0 behind the row. -/
def byn (xs : List Int) (i : Nat) : Nat := (xs.getD i 0).toNat
theorem byn_lt {xs : List Int} (h : Byt xs) (i : Nat) : byn xs i < 256 := by
  have := h.getD i
  unfold byn
  omega
theorem byn_cast {xs : List Int} (h : Byt xs) (i : Nat) : ((byn xs i : Nat) : Int) = xs.getD i 0 := by
  have := h.getD i
  unfold byn
  omega
theorem byn_out (xs : List Int) (i : Nat) (h : xs.length ≤ i) : byn xs i = 0 := by
  unfold byn
  rw [List.getD_eq_getElem?_getD, List.getElem?_eq_none h]
  rfl
/-- Bit i of some bytes, the highest one of the first byte first; 0 behind them. -/
def bitn (xs : List Int) (i : Nat) : Nat := byn xs (i / 8) / 2 ^ (7 - i % 8) % 2
theorem bitn_lt (xs : List Int) (i : Nat) : bitn xs i < 2 := Nat.mod_lt _ (by omega)
theorem bitn_out (xs : List Int) (i : Nat) (h : 8 * xs.length ≤ i) : bitn xs i = 0 := by
  unfold bitn
  rw [byn_out _ _ (by omega)]
  simp
theorem bitn_test (xs : List Int) (i : Nat) : (bitn xs i).testBit 0 = (byn xs (i / 8)).testBit (7 - i % 8) := by
  unfold bitn
  rw [Nat.testBit_zero, Nat.mod_mod, Nat.testBit_eq_decide_div_mod_eq]
/-- Byte j of the row of bits from n on, of which r bits are there. -/
def pb (xs : List Int) (n j : Nat) : Nat → Nat
  | 0 => 0
  | r + 1 => pb xs n j r ||| (bitn xs (n + 8 * j + r) * 2 ^ (7 - r))
theorem pb_test (xs : List Int) (n j r : Nat) (hr : r ≤ 8) (i : Nat) : (pb xs n j r).testBit i = (decide (i < 8 ∧ 7 - i < r) && (bitn xs (n + 8 * j + (7 - i))).testBit 0) := by
  induction r with
  | zero => simp [pb]
  | succ r ih =>
    rw [pb, Nat.testBit_or, ih (by omega), Nat.testBit_mul_two_pow]
    have hb : ∀ m k, 0 < k → (bitn xs m).testBit k = false := fun m k hk => Nat.testBit_lt_two_pow (Nat.lt_of_lt_of_le (bitn_lt xs m) (by have := Nat.pow_le_pow_right (n := 2) (by omega) hk; simpa using this))
    rcases Nat.lt_trichotomy i (7 - r) with h | h | h
    · rw [decide_eq_false (show ¬ (i < 8 ∧ 7 - i < r) by omega), decide_eq_false (show ¬ (7 - r ≤ i) by omega), decide_eq_false (show ¬ (i < 8 ∧ 7 - i < r + 1) by omega)]
      rfl
    · rw [decide_eq_false (show ¬ (i < 8 ∧ 7 - i < r) by omega), decide_eq_true (show 7 - r ≤ i by omega), decide_eq_true (show i < 8 ∧ 7 - i < r + 1 by omega), show i - (7 - r) = 0 from by omega, show 7 - i = r from by omega]
      simp
    · rw [hb (n + 8 * j + r) (i - (7 - r)) (by omega), Bool.and_false, Bool.or_false, show decide (i < 8 ∧ 7 - i < r) = decide (i < 8 ∧ 7 - i < r + 1) from by rw [decide_eq_decide]; omega]
theorem pb_lt (xs : List Int) (n j r : Nat) (hr : r ≤ 8) : pb xs n j r < 256 := by
  refine Nat.lt_pow_two_of_testBit (n := 8) _ fun i hi => ?_
  rw [pb_test xs n j r hr, decide_eq_false (by omega)]
  rfl
/-- Byte j of a row that is shifted left by s bits (s below 8). -/
def sb (xs : List Int) (t s j : Nat) : Nat := (byn xs (t + j) * 2 ^ s % 256) ||| (byn xs (t + j + 1) / 2 ^ (8 - s))
theorem sb_pb {xs : List Int} (h : Byt xs) (t s j : Nat) (hs : s < 8) : sb xs t s j = pb xs (8 * t + s) j 8 := by
  apply Nat.eq_of_testBit_eq
  intro i
  rw [pb_test xs _ _ 8 (Nat.le_refl _), sb, Nat.testBit_or, show (256 : Nat) = 2 ^ 8 from rfl, Nat.testBit_mod_two_pow, Nat.testBit_mul_two_pow, Nat.testBit_div_two_pow, bitn_test]
  have hb : ∀ m k, 8 ≤ k → (byn xs m).testBit k = false := fun m k hk => Nat.testBit_lt_two_pow (Nat.lt_of_lt_of_le (byn_lt h m) (Nat.pow_le_pow_right (n := 2) (by omega) hk))
  by_cases h8 : i < 8
  · by_cases hi : s ≤ i
    · rw [hb (t + j + 1) (i + (8 - s)) (by omega)] 
      rw [show (8 * t + s + 8 * j + (7 - i)) / 8 = t + j from by omega, show 7 - (8 * t + s + 8 * j + (7 - i)) % 8 = i - s from by omega]
      simp [h8, hi, show 7 - i < 8 from by omega]
    · rw [show (8 * t + s + 8 * j + (7 - i)) / 8 = t + j + 1 from by omega, show 7 - (8 * t + s + 8 * j + (7 - i)) % 8 = i + (8 - s) from by omega]
      simp [h8, hi, show 7 - i < 8 from by omega]
  · rw [hb (t + j + 1) (i + (8 - s)) (by omega)]
    simp [h8]
/-- The bytes of the row of bits from n on: so many. -/
def shifted (xs : List Int) (n size : Nat) : List Int := tab size fun j => ((pb xs n j 8 : Nat) : Int)
def shiftedAt (xs : List Int) (n size k : Nat) : List Int := tab size fun j => ((pb xs n j (min 8 (k - 8 * j)) : Nat) : Int)
theorem shiftedAt_zero (xs : List Int) (n size : Nat) : shiftedAt xs n size 0 = List.replicate size 0 := by
  rw [replicate_tab]
  exact tab_congr fun j _ => by rw [show min 8 (0 - 8 * j) = 0 from by omega]; rfl
theorem shiftedAt_end (xs : List Int) (n size : Nat) : shiftedAt xs n size (8 * size) = shifted xs n size :=
  tab_congr fun j hj => by rw [show min 8 (8 * size - 8 * j) = 8 from by omega]
theorem shiftedAt_rd (xs : List Int) (n size k : Nat) (hk : k < 8 * size) : rd (shiftedAt xs n size k) ((k / 8 : Nat) : Int) = ((pb xs n (k / 8) (k % 8) : Nat) : Int) := by
  unfold shiftedAt
  rw [rd_tab (by omega), show min 8 (k - 8 * (k / 8)) = k % 8 from by omega]
theorem shiftedAt_step (xs : List Int) (n size k : Nat) (hk : k < 8 * size) :
    (shiftedAt xs n size k).set (k / 8) (Go.bits .or .u8 ((pb xs n (k / 8) (k % 8) : Nat) : Int) ((bitn xs (n + k) * 2 ^ (7 - k % 8) : Nat) : Int)) = shiftedAt xs n size (k + 1) := by
  unfold shiftedAt
  rw [tab_set]
  refine tab_congr fun j hj => ?_
  by_cases e : j = k / 8
  · subst e
    have h1 := pb_lt xs n (k / 8) (k % 8) (by omega)
    have h2 : bitn xs (n + k) * 2 ^ (7 - k % 8) < 256 := by
      have h3 := bitn_lt xs (n + k)
      have h4 : 2 ^ (7 - k % 8) ≤ 2 ^ 7 := Nat.pow_le_pow_right (by omega) (by omega)
      have h5 : bitn xs (n + k) * 2 ^ (7 - k % 8) ≤ 1 * 2 ^ 7 := Nat.mul_le_mul (by omega) h4
      omega
    rw [if_pos rfl, u8_or _ _ (by omega) (by omega) (by omega) (by omega), Int.toNat_natCast, Int.toNat_natCast, show min 8 (k + 1 - 8 * (k / 8)) = k % 8 + 1 from by omega, pb, show n + 8 * (k / 8) + k % 8 = n + k from by omega]
  · rw [if_neg e, show min 8 (k + 1 - 8 * j) = min 8 (k - 8 * j) from by omega]
/-- A row that is being shifted to the left by t bytes and s bits: k bytes are done. -/
def movedAt (xs : List Int) (t s k : Nat) : List Int := tab xs.length fun j => if j < k then ((sb xs t s j : Nat) : Int) else ((byn xs (t + j) : Nat) : Int)
theorem movedAt_zero {xs : List Int} (h : Byt xs) (t s : Nat) (ht : t ≤ xs.length) : splice (List.replicate xs.length (0 : Int)) 0 ((xs.drop t).take xs.length) = movedAt xs t s 0 := by
  have hl : (xs.drop t).take xs.length = xs.drop t := List.take_of_length_le (by rw [List.length_drop]; omega)
  have e : splice (List.replicate xs.length (0 : Int)) 0 (xs.drop t) = xs.drop t ++ List.replicate t 0 := by
    simp [splice]
    omega
  rw [hl, e]
  refine tab_ext (by simp; omega) fun j hj => ?_
  rw [if_neg (by omega), byn_cast h]
  by_cases hj2 : j < xs.length - t
  · rw [List.getD_eq_getElem?_getD, List.getElem?_append_left (by rw [List.length_drop]; omega), List.getElem?_drop, ← List.getD_eq_getElem?_getD]
  · rw [List.getD_eq_getElem?_getD, List.getElem?_append_right (by rw [List.length_drop]; omega), List.getElem?_replicate, if_pos (by rw [List.length_drop]; omega), List.getD_eq_getElem?_getD, List.getElem?_eq_none (by omega)]
    rfl
theorem movedAt_rd (xs : List Int) (t s k j : Nat) (hj : j < xs.length) (hk : k ≤ j) : rd (movedAt xs t s k) (j : Int) = ((byn xs (t + j) : Nat) : Int) := by
  unfold movedAt
  rw [rd_tab hj, if_neg (by omega)]
theorem movedAt_step {xs : List Int} (h : Byt xs) (t s k : Nat) (hk : k < xs.length) :
    (movedAt xs t s k).set k ((sb xs t s k : Nat) : Int) = movedAt xs t s (k + 1) := by
  unfold movedAt
  rw [tab_set]
  refine tab_congr fun j hj => ?_
  by_cases e : j = k
  · subst e; rw [if_pos rfl, if_pos (by omega)]
  · rw [if_neg e]
    by_cases h1 : j < k
    · rw [if_pos h1, if_pos (by omega)]
    · rw [if_neg h1, if_neg (by omega)]
theorem movedAt_end {xs : List Int} (h : Byt xs) (t s : Nat) (hs : s < 8) : movedAt xs t s xs.length = shifted xs (8 * t + s) xs.length :=
  tab_congr fun j hj => by rw [if_pos hj, sb_pb h t s j hs]
theorem sb_last {xs : List Int} (t s j : Nat) (hj : xs.length ≤ t + j + 1) : sb xs t s j = byn xs (t + j) * 2 ^ s % 256 := by
  unfold sb
  rw [byn_out xs (t + j + 1) hj, Nat.zero_div, Nat.or_zero]
theorem sb_or {xs : List Int} (h : Byt xs) (t s j : Nat) : Go.bits .or .u8 ((byn xs (t + j) * 2 ^ s % 256 : Nat) : Int) ((byn xs (t + j + 1) / 2 ^ (8 - s) : Nat) : Int) = ((sb xs t s j : Nat) : Int) := by
  have h1 := byn_lt h (t + j + 1)
  have h2 : byn xs (t + j + 1) / 2 ^ (8 - s) ≤ byn xs (t + j + 1) := Nat.div_le_self _ _
  have h3 : byn xs (t + j) * 2 ^ s % 256 < 256 := Nat.mod_lt _ (by omega)
  unfold sb
  generalize byn xs (t + j) * 2 ^ s % 256 = a at *
  generalize byn xs (t + j + 1) / 2 ^ (8 - s) = b at *
  rw [u8_or _ _ (by omega) (by omega) (by omega) (by omega), Int.toNat_natCast, Int.toNat_natCast]
end Go.Proofs.YtlpningplmbnhaaDoor.V
