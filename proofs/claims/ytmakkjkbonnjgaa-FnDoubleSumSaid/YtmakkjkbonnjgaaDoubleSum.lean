/- The walk of FnDoubleSum: twice a sum of two elements of the field of 2^128 is the sum of both, doubled. -/
import Derived.Test.YtmakkjkbonnjgaaPure
import Derived.Test.YtmakkjkbonnjgaaKd
import Derived.Test.YtmakkjkbonnjgaaPFnDoubleSumx1
set_option linter.unusedVariables false
set_option linter.unusedSimpArgs false
namespace Go.Proofs.Ytmakkjkbonnjgaa.V
open Go.RowKit Go.Proofs.Ytmakkjkbonnjgaa.PFnDoubleSum
/-! the loops of the printed functions -/
theorem xored_l (xs ys : List Int) (hn : xs.length ≤ 9223372036854775806) : ∀ (d i k : Nat), i + d = min xs.length ys.length → d + 1 ≤ k →
    spec_Xored.l0 k xs ys (tab xs.length fun j => if j < i then Go.bits .xor .u8 (xs.getD j 0) (ys.getD j 0) else xs.getD j 0) (i : Int) =
      some (tab xs.length fun j => if j < ys.length then Go.bits .xor .u8 (xs.getD j 0) (ys.getD j 0) else xs.getD j 0) := by
  intro d
  induction d with
  | zero =>
    intro i k hi hk
    obtain ⟨k, rfl⟩ : ∃ m, k = m + 1 := ⟨k - 1, by omega⟩
    have hfin : (tab xs.length fun j => if j < i then Go.bits .xor .u8 (xs.getD j 0) (ys.getD j 0) else xs.getD j 0) = tab xs.length fun j => if j < ys.length then Go.bits .xor .u8 (xs.getD j 0) (ys.getD j 0) else xs.getD j 0 :=
      tab_congr fun j hj => by
        by_cases h1 : j < i
        · rw [if_pos h1, if_pos (by omega)]
        · rw [if_neg h1, if_neg (by omega)]
    rw [hfin]
    simp only [spec_Xored.l0]
    by_cases h1 : (i : Int) < (ys.length : Int)
    · rw [if_pos h1, if_neg (by omega)]
    · rw [if_neg h1]
  | succ d ih =>
    intro i k hi hk
    obtain ⟨k, rfl⟩ : ∃ m, k = m + 1 := ⟨k - 1, by omega⟩
    have h1 : i < xs.length := by omega
    have h2 : i < ys.length := by omega
    simp only [spec_Xored.l0]
    rw [if_pos (by omega), if_pos (by omega), if_pos (by omega), if_pos (by rw [tab_length]; omega)]
    have e1 : wrap64 ((i : Int) + 1) = ((i + 1 : Nat) : Int) := by unfold wrap64; omega
    rw [e1, ← ih (i + 1) k (by omega) (by omega), Int.toNat_natCast, tab_set]
    congr 1
    refine tab_congr fun j hj => ?_
    by_cases e : j = i
    · subst e
      rw [if_pos rfl, if_pos (by omega)]
      have r1 := rd_tab (n := xs.length) (f := fun m => if m < j then Go.bits .xor .u8 (xs.getD m 0) (ys.getD m 0) else xs.getD m 0) hj
      simp only [Nat.lt_irrefl, if_false] at r1
      exact cong2 (Go.bits .xor .u8) r1 (rd_nat ys j)
    · rw [if_neg e]
      by_cases h3 : j < i
      · rw [if_pos h3, if_pos (by omega)]
      · rw [if_neg h3, if_neg (by omega)]
theorem xored_f (xs ys : List Int) (hn : xs.length ≤ 140737488355327) : spec_Xored.f (xs.length + ys.length + 1) xs ys = some (xorL xs ys) := by
  unfold spec_Xored.f
  simp only [Option.bind_some, List.length_nil, List.nil_append]
  rw [if_pos (by omega)]
  have h := xored_l xs ys (by omega) (min xs.length ys.length) 0 (xs.length + ys.length + 1) (by omega) (by omega)
  have e : (tab xs.length fun j => if j < 0 then Go.bits .xor .u8 (xs.getD j 0) (ys.getD j 0) else xs.getD j 0) = xs := by
    have := (eq_tab xs).symm
    simpa using this
  rw [e] at h
  exact h

def shl1 (xs : List Int) : List Int := tab xs.length fun j => if j + 1 < xs.length then Go.bits .or .u8 ((xs.getD j 0 * 2) % 256) (xs.getD (j + 1) 0 / 128) else (xs.getD j 0 * 2) % 256
theorem shl_l (xs : List Int) (hn : xs.length ≤ 9223372036854775806) (h0 : 0 < xs.length) : ∀ (d i k : Nat), i + d + 1 = xs.length → d + 1 ≤ k →
    byteutil_ShiftBytesLeft.l0 k xs (xs.length : Int) (tab xs.length fun j => if j < i then Go.bits .or .u8 ((xs.getD j 0 * 2) % 256) (xs.getD (j + 1) 0 / 128) else 0) (i : Int) = some (shl1 xs) := by
  intro d
  have w1 : wrap64 ((xs.length : Int) - 1) = ((xs.length - 1 : Nat) : Int) := by unfold wrap64; omega
  induction d with
  | zero =>
    intro i k hi hk
    obtain ⟨k, rfl⟩ : ∃ m, k = m + 1 := ⟨k - 1, by omega⟩
    simp only [byteutil_ShiftBytesLeft.l0]
    rw [w1, if_neg (by omega), if_pos (by omega), if_pos (by omega), if_pos (by rw [tab_length]; omega), Int.toNat_natCast, tab_set]
    congr 1
    refine tab_congr fun j hj => ?_
    by_cases e : j = xs.length - 1
    · subst e
      rw [if_pos rfl, if_neg (by omega)]
      exact congrArg (fun z => z * 2 % 256) (rd_nat xs _)
    · rw [if_neg e, if_pos (by omega), if_pos (by omega)]
  | succ d ih =>
    intro i k hi hk
    obtain ⟨k, rfl⟩ : ∃ m, k = m + 1 := ⟨k - 1, by omega⟩
    simp only [byteutil_ShiftBytesLeft.l0]
    have e1 : wrap64 ((i : Int) + 1) = ((i + 1 : Nat) : Int) := by unfold wrap64; omega
    rw [w1, e1, if_pos (by omega), if_pos (by omega), if_pos (by omega), if_pos (by omega), if_pos (by omega), if_pos (by rw [tab_length]; omega)]
    rw [← ih (i + 1) k (by omega) (by omega), Int.toNat_natCast, tab_set]
    congr 1
    refine tab_congr fun j hj => ?_
    by_cases e : j = i
    · subst e
      rw [if_pos rfl, if_pos (by omega)]
      exact cong2 (fun z y => Go.bits .or .u8 (z * 2 % 256) (y / 128)) (rd_nat xs _) (rd_nat xs _)
    · rw [if_neg e]
      by_cases h3 : j < i
      · rw [if_pos h3, if_pos (by omega)]
      · rw [if_neg h3, if_neg (by omega)]
theorem shl_f (xs : List Int) (hn : xs.length ≤ 140737488355327) (h0 : 0 < xs.length) : byteutil_ShiftBytesLeft.f (xs.length + 1) xs = some (shl1 xs) := by
  unfold byteutil_ShiftBytesLeft.f
  rw [if_pos (by omega), if_pos (by omega), Int.toNat_natCast, replicate_tab]
  have h := shl_l xs (by omega) h0 (xs.length - 1) 0 (xs.length + 1) (by omega) (by omega)
  simpa using h

/-- Twice an element of the field. -/
def dbl (xs : List Int) : List Int := (shl1 xs).set 15 (Go.bits .xor .u8 (rd (shl1 xs) 15) (rd xs 0 / 128 * 135 % 256))
theorem shl1_byt {xs : List Int} (h : Byt xs) : Byt (shl1 xs) := tab_byt fun i _ => by
  have h1 := h.getD i
  have h2 := h.getD (i + 1)
  split
  · exact bo_range _ _ (by omega) (by omega)
  · omega
theorem dbl_tab (xs : List Int) (hl : xs.length = 16) : dbl xs = tab 16 fun j => if j = 15 then Go.bits .xor .u8 ((xs.getD 15 0 * 2) % 256) (xs.getD 0 0 / 128 * 135 % 256) else Go.bits .or .u8 ((xs.getD j 0 * 2) % 256) (xs.getD (j + 1) 0 / 128) := by
  have r1 : rd (shl1 xs) 15 = (xs.getD 15 0 * 2) % 256 := by
    have := rd_tab (n := xs.length) (f := fun j => if j + 1 < xs.length then Go.bits .or .u8 ((xs.getD j 0 * 2) % 256) (xs.getD (j + 1) 0 / 128) else (xs.getD j 0 * 2) % 256) (i := 15) (by omega)
    rw [if_neg (by omega)] at this
    exact this
  unfold dbl
  rw [r1]
  unfold shl1
  rw [tab_set, hl]
  refine tab_congr fun j hj => ?_
  by_cases e : j = 15
  · rw [if_pos e, if_pos e]; rfl
  · rw [if_neg e, if_neg e, if_pos (by omega)]
theorem dbl_byt {xs : List Int} (h : Byt xs) (hl : xs.length = 16) : Byt (dbl xs) := by
  rw [dbl_tab xs hl]
  refine tab_byt fun i _ => ?_
  have h1 := h.getD i
  have h2 := h.getD (i + 1)
  have h3 := h.getD 15
  have h4 := h.getD 0
  split
  · exact bx_range _ _ (by omega) (by omega)
  · exact bo_range _ _ (by omega) (by omega)
theorem dbl_length (xs : List Int) (hl : xs.length = 16) : (dbl xs).length = 16 := by rw [dbl_tab xs hl, tab_length]

theorem shift_nat (a b c d : Nat) (ha : a < 256) (hb : b < 256) (hc : c < 256) (hd : d < 256) :
    ((a ^^^ c) * 2 % 256 ||| (b ^^^ d) / 128) = ((a * 2 % 256 ||| b / 128) ^^^ (c * 2 % 256 ||| d / 128)) := by
  apply Nat.eq_of_testBit_eq
  intro j
  have e : ∀ x : Nat, (x * 2 % 256).testBit j = (decide (j < 8) && (decide (1 ≤ j) && x.testBit (j - 1))) := fun x => by
    rw [show (256 : Nat) = 2 ^ 8 from rfl, Nat.testBit_mod_two_pow, show x * 2 = x * 2 ^ 1 from by omega, Nat.testBit_mul_two_pow]
  have e2 : ∀ x : Nat, x < 256 → (x / 128).testBit j = (decide (j = 0) && x.testBit 7) := fun x hx => by
    rw [show (128 : Nat) = 2 ^ 7 from rfl, Nat.testBit_div_two_pow]
    by_cases hj : j = 0
    · subst hj; simp
    · have : x.testBit (j + 7) = false := Nat.testBit_lt_two_pow (Nat.lt_of_lt_of_le hx (Nat.le_trans (by decide : 256 ≤ 2 ^ 8) (Nat.pow_le_pow_right (by decide) (by omega))))
      simp [hj, this]
  have hbd : b ^^^ d < 256 := Nat.xor_lt_two_pow (n := 8) hb hd
  simp only [Nat.testBit_or, Nat.testBit_xor, e, e2 _ hb, e2 _ hd, e2 _ hbd]
  by_cases hj : j = 0
  · subst hj; simp
  · by_cases h8 : j < 8
    · simp [hj, h8, show 1 ≤ j by omega]
    · simp [hj, h8]
theorem top_nat (c d : Nat) (hc : c < 256) (hd : d < 256) : (c ^^^ d) / 128 = (c / 128) ^^^ (d / 128) := by
  rw [show (128 : Nat) = 2 ^ 7 from rfl, ← Nat.shiftRight_eq_div_pow, ← Nat.shiftRight_eq_div_pow, ← Nat.shiftRight_eq_div_pow, Nat.shiftRight_xor_distrib]
theorem dbl2_nat (a b : Nat) : (a ^^^ b) * 2 % 256 = (a * 2 % 256) ^^^ (b * 2 % 256) := by
  apply Nat.eq_of_testBit_eq
  intro j
  have e : ∀ x : Nat, (x * 2 % 256).testBit j = (decide (j < 8) && (decide (1 ≤ j) && x.testBit (j - 1))) := fun x => by
    rw [show (256 : Nat) = 2 ^ 8 from rfl, Nat.testBit_mod_two_pow, show x * 2 = x * 2 ^ 1 from by omega, Nat.testBit_mul_two_pow]
  simp only [Nat.testBit_xor, e]
  by_cases h8 : j < 8 <;> by_cases h1 : 1 ≤ j <;> simp [h8, h1]
theorem mul135_nat (x y : Nat) (hx : x ≤ 1) (hy : y ≤ 1) : (x ^^^ y) * 135 % 256 = (x * 135 % 256) ^^^ (y * 135 % 256) := by
  rcases (by omega : x = 0 ∨ x = 1) with rfl | rfl <;> rcases (by omega : y = 0 ∨ y = 1) with rfl | rfl <;> decide
theorem dbl_sum (xs ys : List Int) (hx : Byt xs) (hy : Byt ys) (lx : xs.length = 16) (ly : ys.length = 16) : dbl (xorL xs ys) = xorL (dbl xs) (dbl ys) := by
  have gx : ∀ j, j < 16 → (xorL xs ys).getD j 0 = Go.bits .xor .u8 (xs.getD j 0) (ys.getD j 0) := fun j hj => by
    unfold xorL
    rw [tab_getD (by omega), if_pos (by omega)]
  have gd : ∀ zs : List Int, zs.length = 16 → ∀ j, j < 16 → (dbl zs).getD j 0 = if j = 15 then Go.bits .xor .u8 ((zs.getD 15 0 * 2) % 256) (zs.getD 0 0 / 128 * 135 % 256) else Go.bits .or .u8 ((zs.getD j 0 * 2) % 256) (zs.getD (j + 1) 0 / 128) := fun zs hz j hj => by
    rw [dbl_tab zs hz, tab_getD hj]
  refine (tab_ext (xs := dbl (xorL xs ys)) (dbl_length _ (by rw [xorL_length]; exact lx)) fun i hi => rfl).trans ?_
  have hr : xorL (dbl xs) (dbl ys) = tab 16 fun j => Go.bits .xor .u8 ((dbl xs).getD j 0) ((dbl ys).getD j 0) := by
    refine tab_ext (by rw [xorL_length, dbl_length _ lx]) fun j hj => ?_
    unfold xorL
    rw [tab_getD (by rw [dbl_length _ lx]; exact hj), if_pos (by rw [dbl_length _ ly]; exact hj)]
  rw [hr]
  refine tab_congr fun j hj => ?_
  rw [gd _ (by rw [xorL_length]; exact lx) j hj, gd _ lx j hj, gd _ ly j hj]
  have bx : ∀ i, ∃ n : Nat, xs.getD i 0 = (n : Int) ∧ n < 256 := fun i => ⟨(xs.getD i 0).toNat, by have := hx.getD i; omega, by have := hx.getD i; omega⟩
  have by' : ∀ i, ∃ n : Nat, ys.getD i 0 = (n : Int) ∧ n < 256 := fun i => ⟨(ys.getD i 0).toNat, by have := hy.getD i; omega, by have := hy.getD i; omega⟩
  by_cases e : j = 15
  · rw [if_pos e, if_pos e, if_pos e, gx 15 (by omega), gx 0 (by omega)]
    obtain ⟨a, ea, ha⟩ := bx 15
    obtain ⟨b, eb, hb⟩ := by' 15
    obtain ⟨c, ec, hc⟩ := bx 0
    obtain ⟨d, ed, hd⟩ := by' 0
    rw [ea, eb, ec, ed, u8_xor_nat a b ha hb, u8_xor_nat c d hc hd]
    have hab : a ^^^ b < 256 := Nat.xor_lt_two_pow (n := 8) ha hb
    have hcd : c ^^^ d < 256 := Nat.xor_lt_two_pow (n := 8) hc hd
    rw [show (((a ^^^ b : Nat) : Int) * 2 % 256) = (((a ^^^ b) * 2 % 256 : Nat) : Int) from by omega, show (((c ^^^ d : Nat) : Int) / 128 * 135 % 256) = (((c ^^^ d) / 128 * 135 % 256 : Nat) : Int) from by omega,
      show ((a : Int) * 2 % 256) = ((a * 2 % 256 : Nat) : Int) from by omega, show ((b : Int) * 2 % 256) = ((b * 2 % 256 : Nat) : Int) from by omega,
      show ((c : Int) / 128 * 135 % 256) = ((c / 128 * 135 % 256 : Nat) : Int) from by omega, show ((d : Int) / 128 * 135 % 256) = ((d / 128 * 135 % 256 : Nat) : Int) from by omega]
    have q1 : a * 2 % 256 ^^^ c / 128 * 135 % 256 < 256 := Nat.xor_lt_two_pow (n := 8) (by omega) (by omega)
    have q2 : b * 2 % 256 ^^^ d / 128 * 135 % 256 < 256 := Nat.xor_lt_two_pow (n := 8) (by omega) (by omega)
    rw [u8_xor_nat _ _ (by omega) (by omega), u8_xor_nat _ _ (by omega) (by omega), u8_xor_nat _ _ (by omega) (by omega), u8_xor_nat _ _ q1 q2]
    rw [dbl2_nat, top_nat c d hc hd, mul135_nat _ _ (by omega) (by omega)]
    congr 1
    generalize a * 2 % 256 = p
    generalize b * 2 % 256 = q
    generalize c / 128 * 135 % 256 = r
    generalize d / 128 * 135 % 256 = s
    rw [Nat.xor_assoc, Nat.xor_assoc, ← Nat.xor_assoc q, Nat.xor_comm q r, Nat.xor_assoc r]
  · rw [if_neg e, if_neg e, if_neg e, gx j hj, gx (j + 1) (by omega)]
    obtain ⟨a, ea, ha⟩ := bx j
    obtain ⟨c, ec, hc⟩ := by' j
    obtain ⟨b, eb, hb⟩ := bx (j + 1)
    obtain ⟨d, ed, hd⟩ := by' (j + 1)
    rw [ea, eb, ec, ed, u8_xor_nat a c ha hc, u8_xor_nat b d hb hd]
    have hac : a ^^^ c < 256 := Nat.xor_lt_two_pow (n := 8) ha hc
    have hbd : b ^^^ d < 256 := Nat.xor_lt_two_pow (n := 8) hb hd
    rw [show (((a ^^^ c : Nat) : Int) * 2 % 256) = (((a ^^^ c) * 2 % 256 : Nat) : Int) from by omega, show (((b ^^^ d : Nat) : Int) / 128) = (((b ^^^ d) / 128 : Nat) : Int) from by omega,
      show ((a : Int) * 2 % 256) = ((a * 2 % 256 : Nat) : Int) from by omega, show ((c : Int) * 2 % 256) = ((c * 2 % 256 : Nat) : Int) from by omega,
      show ((b : Int) / 128) = ((b / 128 : Nat) : Int) from by omega, show ((d : Int) / 128) = ((d / 128 : Nat) : Int) from by omega]
    have q1 : (a * 2 % 256 ||| b / 128) < 256 := Nat.or_lt_two_pow (n := 8) (by omega) (by omega)
    have q2 : (c * 2 % 256 ||| d / 128) < 256 := Nat.or_lt_two_pow (n := 8) (by omega) (by omega)
    rw [u8_or_nat _ _ (by omega) (by omega), u8_or_nat _ _ (by omega) (by omega), u8_or_nat _ _ (by omega) (by omega), u8_xor_nat _ _ q1 q2, shift_nat a b c d ha hb hc hd]
end Go.Proofs.Ytmakkjkbonnjgaa.V
