/- Plain facts: or and and of whole numbers of 64 bits; a number in octets, the highest first. -/
import Derived.Test.YtalbaapbiopamaaDoorV
import Derived.Laws.BitsAllLaws
set_option linter.unusedVariables false
set_option linter.unusedSimpArgs false
namespace Go.Proofs.YtalbaapbiopamaaDoor.V
open Go.RowKit
theorem ofInt_i64 (a : Nat) (ha : a < 9223372036854775808) : (BitVec.ofInt 64 (a : Int)).toNat = a := by
  rw [BitVec.ofInt_natCast, BitVec.toNat_ofNat]; exact Nat.mod_eq_of_lt (by omega)
theorem wrap_i64_id (a : Nat) (ha : a < 9223372036854775808) : IntKind.i64.wrap (a : Int) = (a : Int) := by
  simp [IntKind.wrap, IntKind.bits, IntKind.signed]
  omega
theorem i64_or_nat (a b : Nat) (ha : a < 9223372036854775808) (hb : b < 9223372036854775808) : bits .or .i64 (a : Int) (b : Int) = ((a ||| b : Nat) : Int) := by
  have hx : a ||| b < 2 ^ 63 := Nat.or_lt_two_pow (by omega) (by omega)
  show IntKind.i64.wrap ((BitVec.ofInt 64 (a : Int) ||| BitVec.ofInt 64 (b : Int)).toNat : Int) = _
  rw [BitVec.toNat_or, ofInt_i64 a ha, ofInt_i64 b hb, wrap_i64_id _ (by omega)]
theorem i64_and_nat (a b : Nat) (ha : a < 9223372036854775808) (hb : b < 9223372036854775808) : bits .and .i64 (a : Int) (b : Int) = ((a &&& b : Nat) : Int) := by
  have hx : a &&& b < 2 ^ 63 := Nat.and_lt_two_pow _ (by omega)
  show IntKind.i64.wrap ((BitVec.ofInt 64 (a : Int) &&& BitVec.ofInt 64 (b : Int)).toNat : Int) = _
  rw [BitVec.toNat_and, ofInt_i64 a ha, ofInt_i64 b hb, wrap_i64_id _ (by omega)]
theorem i64_or256 {a b : Int} (ha : 0 ≤ a) (ha2 : a < 36028797018963968) (hb : 0 ≤ b) (hb2 : b ≤ 255) : bits .or .i64 (a * 256) b = a * 256 + b := by
  obtain ⟨A, rfl⟩ := Int.eq_ofNat_of_zero_le ha
  obtain ⟨B, rfl⟩ := Int.eq_ofNat_of_zero_le hb
  have h := i64_or_nat (A * 256) B (by omega) (by omega)
  rw [nat_join 8 (A * 256) B (by omega) (by omega)] at h
  rw [show ((A * 256 : Nat) : Int) = (A : Int) * 256 from by omega, show ((A * 256 + B : Nat) : Int) = (A : Int) * 256 + (B : Int) from by omega] at h
  exact h
/-- A number in octets, the highest first. -/
def numL (xs : List Int) : Int := xs.foldl (fun n c => n * 256 + c) 0
theorem numL_nil : numL [] = 0 := rfl
theorem numL_snoc (xs : List Int) (c : Int) : numL (xs ++ [c]) = numL xs * 256 + c := by simp [numL, List.foldl_append]
theorem take_snoc {xs : List Int} {k : Nat} (h : k < xs.length) : xs.take (k + 1) = xs.take k ++ [rd xs (k : Int)] := by
  rw [List.take_succ_eq_append_getElem h]
  simp [rd, List.getD_eq_getElem?_getD, List.getElem?_eq_getElem h]
theorem numL_take {xs : List Int} {k : Nat} (h : k < xs.length) : numL (xs.take (k + 1)) = numL (xs.take k) * 256 + rd xs (k : Int) := by
  rw [take_snoc h, numL_snoc]
theorem numL_bound {xs : List Int} (h : Byt xs) (k : Nat) (hk : k ≤ xs.length) : 0 ≤ numL (xs.take k) ∧ numL (xs.take k) < 256 ^ k := by
  induction k with
  | zero => simp [numL]
  | succ k ih =>
    have hi := ih (by omega)
    have hr := h.rd (k : Int)
    rw [numL_take (by omega), Int.pow_succ]
    omega
theorem numL_small {xs : List Int} (h : Byt xs) (k : Nat) (hk : k ≤ xs.length) (h6 : k ≤ 6) : 0 ≤ numL (xs.take k) ∧ numL (xs.take k) < 281474976710656 := by
  have hb := numL_bound h k hk
  have hm : (256 : Nat) ^ k ≤ 256 ^ 6 := Nat.pow_le_pow_right (by omega) h6
  have hc : ((256 : Nat) ^ k : Nat) = ((256 : Int) ^ k) := by simp
  have : (256 : Nat) ^ 6 = 281474976710656 := by decide
  omega
end Go.Proofs.YtalbaapbiopamaaDoor.V
