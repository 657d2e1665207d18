/- The contract of spec.Lines. -/
import Derived.Test.YtphnjfbaioblbaaDoorRwsB
import Derived.Test.YtphnjfbaioblbaaDoorDashS
set_option linter.unusedVariables false
set_option linter.unusedSimpArgs false
namespace Go.Proofs.YtphnjfbaioblbaaDoor
open Go.RowKit V
/-- x[i:j:j] -/
theorem cut_mid3 {P : Program} (t e : TypeId) (ht : P.underlying t = some (.slice e)) (hsz : (P.info? e).map (·.size) = some 1) (A : Option Addr) (n c i j : Nat) (k1 k2 k3 : IntKind) (hi : i ≤ j) (hj : j ≤ c) (W : World) :
    (Instr.slice t (.slice A n c) (some (.int k1 i)) (some (.int k2 j)) (some (.int k3 j))).run P W = .ok (.slice (if j = i then A else A.map (·.add i)) (j - i) (j - i)) W := by
  cases hq : P.info? e with
  | none => simp [hq] at hsz
  | some q =>
    have hs1 : q.size = 1 := by simpa [hq] using hsz
    simp [Instr.slice, run_underlying ht, Instr.sliceBounds, Instr.sliceBound, asIntOf, hi, hj, sizeOf, typeInfo, hq, hs1, go_sem]
/-- The loop's state behind k bytes: the lines that are ended, where the one under way begins. -/
def LInv (xs : List Int) (k f : Nat) (acc : List (List Int)) : Prop := f ≤ k ∧ splits (xs.take k) = (acc, (xs.drop f).take (k - f)) ∧ acc.length ≤ k
theorem linv_step (xs : List Int) (k f : Nat) (acc : List (List Int)) (h : LInv xs k f acc) (hk : k < xs.length) :
    if rd xs k = 10 then LInv xs (k + 1) (k + 1) (acc ++ [(xs.drop f).take (k - f)]) else LInv xs (k + 1) f acc := by
  obtain ⟨h1, h2, h3⟩ := h
  have he : xs.take (k + 1) = xs.take k ++ [rd xs k] := by
    rw [List.take_add_one, List.getElem?_eq_getElem hk]
    simp [rd, hk]
  have h4 : splits (xs.take (k + 1)) = splitStep (acc, (xs.drop f).take (k - f)) (rd xs k) := by rw [he, splits_snoc, h2]
  by_cases h10 : rd xs k = 10
  · rw [if_pos h10]
    refine ⟨Nat.le_refl _, ?_, by simp; omega⟩
    rw [h4, h10]
    simp [splitStep]
  · rw [if_neg h10]
    refine ⟨by omega, ?_, by omega⟩
    rw [h4]
    unfold splitStep
    rw [if_neg h10]
    have hf : k - f < (xs.drop f).length := by rw [List.length_drop]; omega
    rw [show k + 1 - f = (k - f) + 1 from by omega, List.take_add_one, List.getElem?_eq_getElem hf]
    simp [rd, hk, show f + (k - f) = k from by omega]
theorem linv_end (xs : List Int) (f : Nat) (acc : List (List Int)) (h : LInv xs xs.length f acc) : linesL xs = acc ++ [xs.drop f] := by
  obtain ⟨h1, h2, h3⟩ := h
  rw [List.take_length] at h2
  unfold linesL
  rw [h2, List.take_of_length_le (by rw [List.length_drop]; omega)]
end Go.Proofs.YtphnjfbaioblbaaDoor
