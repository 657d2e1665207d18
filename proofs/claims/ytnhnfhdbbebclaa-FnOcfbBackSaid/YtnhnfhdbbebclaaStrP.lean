/- Plain words for pieces that are enciphered one behind another. -/
import Derived.Test.YtnhnfhdbbebclaaOfbP
import Derived.Test.YtnhnfhdbbebclaaRws
set_option linter.unusedVariables false
set_option linter.unusedSimpArgs false
namespace Go.Proofs.Ytnhnfhdbbebclaa.V
open Go.RowKit
section
variable (E : List Int → List Int) (n : Nat)
def outsE : List Int × Nat → List (List Int) → List (List Int)
  | _, [] => []
  | st, p :: ps => outE E n st p :: outsE (runE E n st p) ps
def outsD : List Int × Nat → List (List Int) → List (List Int)
  | _, [] => []
  | st, p :: ps => outD E n st p :: outsD (runD E n st p) ps
end
section
variable {E : List Int → List Int} {n : Nat}
theorem outsE_append : ∀ (xs : List (List Int)) (y : List Int) (st : List Int × Nat), outsE E n st (xs ++ [y]) = outsE E n st xs ++ [outE E n (runE E n st xs.flatten) y]
  | [], _, _ => rfl
  | x :: xs, y, st => by simp [outsE, outsE_append xs y, runE_append]
theorem outsD_append : ∀ (xs : List (List Int)) (y : List Int) (st : List Int × Nat), outsD E n st (xs ++ [y]) = outsD E n st xs ++ [outD E n (runD E n st xs.flatten) y]
  | [], _, _ => rfl
  | x :: xs, y, st => by simp [outsD, outsD_append xs y, runD_append]
theorem outsE_step {xss : List (List Int)} {k : Nat} (h : k < xss.length) (st : List Int × Nat) : outsE E n st (xss.take (k + 1)) = outsE E n st (xss.take k) ++ [outE E n (runE E n st (xss.take k).flatten) xss[k]] ∧
    runE E n st (xss.take (k + 1)).flatten = runE E n (runE E n st (xss.take k).flatten) xss[k] := by
  rw [flat_take h, runE_append, List.take_succ_eq_append_getElem h, outsE_append]
  exact ⟨rfl, rfl⟩
theorem outsD_step {xss : List (List Int)} {k : Nat} (h : k < xss.length) (st : List Int × Nat) : outsD E n st (xss.take (k + 1)) = outsD E n st (xss.take k) ++ [outD E n (runD E n st (xss.take k).flatten) xss[k]] ∧
    runD E n st (xss.take (k + 1)).flatten = runD E n (runD E n st (xss.take k).flatten) xss[k] := by
  rw [flat_take h, runD_append, List.take_succ_eq_append_getElem h, outsD_append]
  exact ⟨rfl, rfl⟩
theorem outsE_length : ∀ (xss : List (List Int)) (st : List Int × Nat), (outsE E n st xss).length = xss.length
  | [], _ => rfl
  | x :: xs, st => by simp [outsE, outsE_length xs]
theorem outsD_length : ∀ (xss : List (List Int)) (st : List Int × Nat), (outsD E n st xss).length = xss.length
  | [], _ => rfl
  | x :: xs, st => by simp [outsD, outsD_length xs]
theorem outsD_flat : ∀ (xss : List (List Int)) (st : List Int × Nat), (outsD E n st xss).flatten = outD E n st xss.flatten
  | [], _ => rfl
  | x :: xs, st => by simp [outsD, outsD_flat xs, outD_append]
theorem outsD_lens : ∀ (xss : List (List Int)) (st : List Int × Nat), (outsD E n st xss).map List.length = xss.map List.length
  | [], _ => rfl
  | x :: xs, st => by simp [outsD, outsD_lens xs, outD_length]
end
end Go.Proofs.Ytnhnfhdbbebclaa.V
