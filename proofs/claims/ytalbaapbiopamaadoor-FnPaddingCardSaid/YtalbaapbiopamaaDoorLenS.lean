/- Lengths of the new form: how long, and read again. -/
import Derived.Test.YtalbaapbiopamaaDoorWHeadS
import Derived.Test.YtalbaapbiopamaaDoorRPacket
set_option linter.unusedVariables false
set_option linter.unusedSimpArgs false
namespace Go.Proofs.YtalbaapbiopamaaDoor
open Go.RowKit V
theorem lenL_length (n : Nat) : (lenL n).length ≤ 5 := by
  unfold lenL
  split
  · simp
  · split <;> simp
theorem rlen_lenL (n : Nat) (ys : List Int) (hn : n ≤ 4294967295) : rlen (lenL n ++ ys) = ((n : Int), false, ((lenL n).length : Int), 0) := by
  unfold lenL
  by_cases h : n < 192
  · rw [if_pos h]
    have h0 : rd ([(n : Int)] ++ ys) 0 = (n : Int) := by simp [rd]
    unfold rlen
    rw [if_neg (by simp), h0, if_pos (by omega)]
    rfl
  · rw [if_neg h]
    by_cases h2 : n < 8384
    · rw [if_pos h2]
      have hq : ((n - 192 : Nat) : Int) = (n : Int) - 192 := by omega
      rw [hq]
      have h0 : rd ([((n : Int) - 192) / 256 + 192, ((n : Int) - 192) % 256] ++ ys) 0 = ((n : Int) - 192) / 256 + 192 := by simp [rd]
      have h1 : rd ([((n : Int) - 192) / 256 + 192, ((n : Int) - 192) % 256] ++ ys) 1 = ((n : Int) - 192) % 256 := by simp [rd]
      have e : (((n : Int) - 192) / 256 + 192 - 192) * 256 + ((n : Int) - 192) % 256 + 192 = (n : Int) := by omega
      unfold rlen
      rw [if_neg (by simp), h0, if_neg (by omega), if_pos (by omega), if_neg (by simp), h1, e]
      rfl
    · rw [if_neg h2]
      have h0 : rd ([255, (n : Int) / 16777216 % 256, (n : Int) / 65536 % 256, (n : Int) / 256 % 256, (n : Int) % 256] ++ ys) 0 = 255 := by simp [rd]
      have e : numL (([255, (n : Int) / 16777216 % 256, (n : Int) / 65536 % 256, (n : Int) / 256 % 256, (n : Int) % 256] ++ ys).tail.take 4) = (n : Int) := by
        simp [numL]
        omega
      unfold rlen
      rw [if_neg (by simp), h0, if_neg (by omega), if_neg (by omega), if_neg (by omega), if_neg (by simp), e]
      rfl
end Go.Proofs.YtalbaapbiopamaaDoor
