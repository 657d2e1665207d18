/- Plain: a length of the new form. -/
import Derived.Test.YtalbaapbiopamaaDoorV
set_option linter.unusedVariables false
set_option linter.unusedSimpArgs false
namespace Go.Proofs.YtalbaapbiopamaaDoor.V
open Go.RowKit
/-- A length of the new form, in as few octets as it can be. -/
def lenL (n : Nat) : List Int :=
  if n < 192 then [(n : Int)]
  else if n < 8384 then [((n - 192 : Nat) : Int) / 256 + 192, ((n - 192 : Nat) : Int) % 256]
  else [255, (n : Int) / 16777216 % 256, (n : Int) / 65536 % 256, (n : Int) / 256 % 256, (n : Int) % 256]
theorem lenL_byt (n : Nat) : Byt (lenL n) := by
  unfold lenL
  split
  · intro x hx; simp at hx; omega
  · split
    · intro x hx; simp at hx; omega
    · intro x hx; simp at hx; omega
end Go.Proofs.YtalbaapbiopamaaDoor.V
