/- Plain words for CBC: the states, the row after k blocks. -/
import Derived.Test.YthbgpbaneghmdaaXorB
import Derived.Test.YthbgpbaneghmdaaPermP
set_option linter.unusedVariables false
set_option linter.unusedSimpArgs false
namespace Go.Proofs.Ythbgpbaneghmdaa.V
open Go.RowKit
section
variable (E : List Int → List Int) (n : Nat) (src iv : List Int)
def cbcSt : Nat → List Int
  | 0 => iv
  | k + 1 => E (xorZ ((src.drop (k * n)).take n) (cbcSt k))
def cbcOut : Nat → List Int
  | 0 => []
  | k + 1 => cbcOut k ++ cbcSt E n src iv (k + 1)
def cbcRow (zs : List Int) (k : Nat) : List Int := cbcOut E n src iv k ++ zs.drop (k * n)
end
section
variable {E : List Int → List Int} {n : Nat} {src iv : List Int}
theorem cbcSt_length (hE : ∀ x, (E x).length = n) (hi : iv.length = n) : ∀ k, (cbcSt E n src iv k).length = n
  | 0 => hi
  | k + 1 => hE _
theorem cbcOut_length (hE : ∀ x, (E x).length = n) (hi : iv.length = n) : ∀ k, (cbcOut E n src iv k).length = k * n
  | 0 => by simp [cbcOut]
  | k + 1 => by rw [cbcOut, List.length_append, cbcOut_length hE hi k, cbcSt_length hE hi, Nat.add_mul]; omega
theorem cbcRow_length (hE : ∀ x, (E x).length = n) (hi : iv.length = n) (zs : List Int) (k : Nat) (hk : k * n ≤ zs.length) : (cbcRow E n src iv zs k).length = zs.length := by
  unfold cbcRow
  rw [List.length_append, cbcOut_length hE hi, List.length_drop]
  omega
theorem cbcSt_byt (hE : ∀ x, Byt (E x)) (hi : Byt iv) : ∀ k, Byt (cbcSt E n src iv k)
  | 0 => hi
  | k + 1 => hE _
/-- The row's part at k blocks on. -/
theorem cbcRow_at (hE : ∀ x, (E x).length = n) (hi : iv.length = n) (zs : List Int) (k : Nat) (hk : k * n ≤ zs.length) (ys : List Int) (hy : ys.length = n) (hk2 : k * n + n ≤ zs.length) :
    splice (cbcRow E n src iv zs k) (k * n) ys = cbcOut E n src iv k ++ ys ++ zs.drop ((k + 1) * n) := by
  have hl := cbcOut_length (src := src) hE hi k
  unfold splice cbcRow
  rw [List.take_append_of_le_length (by omega), List.take_of_length_le (by omega), List.drop_append, List.drop_of_length_le (by omega), List.nil_append, hl, hy, List.drop_drop]
  have e : k * n + (k * n + n - k * n) = (k + 1) * n := by rw [Nat.add_mul]; omega
  rw [e, List.append_assoc]
theorem cbcRow_step (hE : ∀ x, (E x).length = n) (hi : iv.length = n) (zs : List Int) (k : Nat) (hk2 : k * n + n ≤ zs.length) (ys : List Int) (hy : ys.length = n) :
    splice (splice (cbcRow E n src iv zs k) (k * n) ys) (k * n) (cbcSt E n src iv (k + 1)) = cbcRow E n src iv zs (k + 1) := by
  have hl := cbcOut_length (src := src) hE hi k
  have hs := cbcSt_length (src := src) hE hi (k + 1)
  rw [cbcRow_at hE hi zs k (by omega) ys hy hk2]
  unfold splice
  rw [List.append_assoc, List.take_append_of_le_length (by omega), List.take_of_length_le (by omega), List.drop_append, List.drop_of_length_le (by omega), List.nil_append, hl, hs, show k * n + n - k * n = n from by omega, List.drop_append, List.drop_of_length_le (by omega), List.nil_append, hy, Nat.sub_self, List.drop_zero]
  unfold cbcRow
  rw [cbcOut, List.append_assoc]
theorem cbcRow_zero (zs : List Int) : cbcRow E n src iv zs 0 = zs := by simp [cbcRow, cbcOut]
/-- .. and that part read. -/
theorem splice_read (xs ys : List Int) (o : Nat) (h : o + ys.length ≤ xs.length) : ((splice xs o ys).drop o).take ys.length = ys := by
  unfold splice
  rw [List.drop_append, List.length_take, Nat.min_eq_left (by omega), List.drop_of_length_le (by rw [List.length_take]; omega), List.nil_append, Nat.sub_self, List.drop_zero, List.take_append_of_le_length (by omega), List.take_of_length_le (by omega)]
theorem cbcRow_last (hE : ∀ x, (E x).length = n) (hi : iv.length = n) (zs : List Int) (k : Nat) (hk : (k + 1) * n ≤ zs.length) : ((cbcRow E n src iv zs (k + 1)).drop (k * n)).take n = cbcSt E n src iv (k + 1) := by
  have hl := cbcOut_length (src := src) hE hi k
  have hs := cbcSt_length (src := src) hE hi (k + 1)
  unfold cbcRow
  rw [cbcOut, List.append_assoc, List.drop_append, List.drop_of_length_le (by omega), List.nil_append, hl, Nat.sub_self, List.drop_zero, List.take_append_of_le_length (by omega), List.take_of_length_le (by omega)]
end
end Go.Proofs.Ythbgpbaneghmdaa.V
