/- A row that is written whole. -/
import Derived.Test.YtnhnfhdbbebclaaV2
set_option linter.unusedVariables false
namespace Go.Proofs.Ytnhnfhdbbebclaa.V
theorem splice_all {xs ys : List Int} (h : ys.length = xs.length) : splice xs 0 ys = ys := by
  unfold splice
  rw [List.take_zero, List.nil_append, Nat.zero_add, h, List.drop_length, List.append_nil]
theorem set_byt' {xs : List Int} (h : Byt xs) (i : Nat) {v : Int} (hv : 0 ≤ v ∧ v ≤ 255) : Byt (xs.set i v) := fun x hx => by
  rcases List.mem_or_eq_of_mem_set hx with h1 | h1
  · exact h x h1
  · rw [h1]; exact hv
end Go.Proofs.Ytnhnfhdbbebclaa.V
