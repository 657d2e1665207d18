/- Plain facts for HASH of OCB: the masks, the sum as it goes through a text. -/
import Derived.Test.YtlpningplmbnhaaDoorMut
import Derived.Test.YtlpningplmbnhaaDoorTz
import Derived.Test.YtlpningplmbnhaaDoorEncS
import Derived.Test.YtlpningplmbnhaaDoorDbl1
import Derived.Test.YtlpningplmbnhaaDoorPadB
import Derived.Test.YtlpningplmbnhaaDoorRws
set_option linter.unusedVariables false
set_option linter.unusedSimpArgs false
namespace Go.Proofs.YtlpningplmbnhaaDoor
open Go.RowKit V
theorem zeros_byt (n : Nat) : Byt (List.replicate n 0) := fun x h => by rw [List.eq_of_mem_replicate h]; omega
def lAstL (perm sub mask : List Int) : List Int := encL perm sub mask (List.replicate 16 0)
def lAtL (perm sub mask : List Int) : Nat → List Int
  | 0 => dbl (dbl (lAstL perm sub mask))
  | i + 1 => dbl (lAtL perm sub mask i)
theorem lAstL_length {perm sub mask : List Int} (hm : mask.length = 16) : (lAstL perm sub mask).length = 16 := by unfold lAstL; rw [encL_length]; exact hm
theorem lAstL_byt {perm sub mask : List Int} (bs : Byt sub) (bm : Byt mask) : Byt (lAstL perm sub mask) := encL_byt _ bs bm
theorem lAtL_length (perm sub mask : List Int) (i : Nat) : (lAtL perm sub mask i).length = 16 := by cases i <;> exact dbl_length _
theorem lAtL_byt (perm sub mask : List Int) (i : Nat) : Byt (lAtL perm sub mask i) := by cases i <;> exact dbl_byt _
/-- The block number k of a text. -/
def chunkL (xs : List Int) (k : Nat) : List Int := (xs.drop (16 * k)).take 16
/-- The offset and the sum after k blocks. -/
def offL (perm sub mask : List Int) : Nat → List Int
  | 0 => List.replicate 16 0
  | k + 1 => xorL (offL perm sub mask k) (lAtL perm sub mask (tz (k + 1)))
def sumL16 (perm sub mask xs : List Int) : Nat → List Int
  | 0 => List.replicate 16 0
  | k + 1 => xorL (sumL16 perm sub mask xs k) (encL perm sub mask (xorL (chunkL xs k) (offL perm sub mask (k + 1))))
def hashL (perm sub mask xs : List Int) : List Int :=
  if xs.length % 16 = 0 then sumL16 perm sub mask xs (xs.length / 16)
  else xorL (sumL16 perm sub mask xs (xs.length / 16)) (encL perm sub mask (xorL (padB (xs.drop (16 * (xs.length / 16))) 16) (xorL (offL perm sub mask (xs.length / 16)) (lAstL perm sub mask))))
theorem offL_length (perm sub mask : List Int) : ∀ k, (offL perm sub mask k).length = 16
  | 0 => by simp [offL]
  | k + 1 => by unfold offL; rw [xorL_length]; exact offL_length perm sub mask k
theorem offL_byt (perm sub mask : List Int) : ∀ k, Byt (offL perm sub mask k)
  | 0 => zeros_byt 16
  | k + 1 => by unfold offL; exact xorL_byt (offL_byt perm sub mask k) (lAtL_byt _ _ _ _)
theorem sumL16_length (perm sub mask xs : List Int) : ∀ k, (sumL16 perm sub mask xs k).length = 16
  | 0 => by simp [sumL16]
  | k + 1 => by unfold sumL16; rw [xorL_length]; exact sumL16_length perm sub mask xs k
theorem sumL16_byt {perm sub mask : List Int} (bs : Byt sub) (bm : Byt mask) (xs : List Int) : ∀ k, Byt (sumL16 perm sub mask xs k)
  | 0 => zeros_byt 16
  | k + 1 => by unfold sumL16; exact xorL_byt (sumL16_byt bs bm xs k) (encL_byt _ bs bm)
theorem hashL_length (perm sub mask xs : List Int) : (hashL perm sub mask xs).length = 16 := by
  unfold hashL
  split
  · exact sumL16_length _ _ _ _ _
  · rw [xorL_length]; exact sumL16_length _ _ _ _ _
theorem chunkL_length {xs : List Int} {k : Nat} (h : 16 * (k + 1) ≤ xs.length) : (chunkL xs k).length = 16 := by unfold chunkL; rw [List.length_take, List.length_drop]; omega
end Go.Proofs.YtlpningplmbnhaaDoor
