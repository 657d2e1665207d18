/- Plain words for a block cipher in counter mode, of 16 bytes. -/
import Derived.Test.YthbgpbaneghmdaaPermP
set_option linter.unusedVariables false
set_option linter.unusedSimpArgs false
namespace Go.Proofs.Ythbgpbaneghmdaa.V
open Go.RowKit
/-- The first k bytes of a counter taken as a number, one more. -/
def inc : Nat → List Int → List Int
  | 0, xs => xs
  | k + 1, xs => if xs.getD k 0 = 255 then inc k (xs.set k 0) else xs.set k (xs.getD k 0 + 1)
def incN : Nat → List Int → List Int
  | 0, xs => xs
  | k + 1, xs => inc 16 (incN k xs)
theorem inc_length : ∀ (k : Nat) (xs : List Int), (inc k xs).length = xs.length
  | 0, _ => rfl
  | k + 1, xs => by
    unfold inc
    split
    · rw [inc_length k, List.length_set]
    · rw [List.length_set]
theorem inc_byt : ∀ (k : Nat) (xs : List Int), Byt xs → Byt (inc k xs)
  | 0, _, h => h
  | k + 1, xs, h => by
    have hset : ∀ y : Int, 0 ≤ y ∧ y ≤ 255 → Byt (xs.set k y) := fun y hy x hx => by
      rcases List.mem_or_eq_of_mem_set hx with h2 | h2
      · exact h x h2
      · rw [h2]; exact hy
    unfold inc
    split
    · exact inc_byt k _ (hset 0 (by omega))
    · have := h.getD k
      exact hset _ (by omega)
theorem incN_length (k : Nat) (xs : List Int) : (incN k xs).length = xs.length := by
  induction k with
  | zero => rfl
  | succ k ih => rw [incN, inc_length, ih]
theorem incN_byt (k : Nat) (xs : List Int) (h : Byt xs) : Byt (incN k xs) := by
  induction k with
  | zero => exact h
  | succ k ih => exact inc_byt _ _ ih
section
variable (E : List Int → List Int) (c : List Int)
/-- Byte j of the key stream. -/
def keyB (j : Nat) : Int := (E (incN (j / 16) c)).getD (j % 16) 0
/-- A text under the key stream. -/
def ctrL (text : List Int) : List Int := tab text.length fun j => Go.bits .xor .u8 (text.getD j 0) (keyB E c j)
end
section
variable {E : List Int → List Int} {c : List Int}
theorem ctrL_length (text : List Int) : (ctrL E c text).length = text.length := tab_length _ _
theorem ctrL_byt (hb : ∀ x, Byt (E x)) {text : List Int} (h : Byt text) : Byt (ctrL E c text) := tab_byt fun i _ => bx_range _ _ (h.getD i) ((hb _).getD _)
/-- Twice under the key stream: as it was. -/
theorem ctrL_twice (hb : ∀ x, Byt (E x)) {text : List Int} (h : Byt text) : ctrL E c (ctrL E c text) = text := by
  conv => rhs; rw [eq_tab text]
  unfold ctrL
  rw [tab_length]
  refine tab_congr fun j hj => ?_
  rw [tab_getD hj]
  have hk := (hb (incN (j / 16) c)).getD (j % 16)
  show Go.bits .xor .u8 (Go.bits .xor .u8 _ (keyB E c j)) (keyB E c j) = _
  unfold keyB
  rw [bx_assoc _ _ _ (h.getD j) hk hk, bx_self _ hk, bx_zero _ (h.getD j)]
theorem take_gd {xs : List Int} {k j : Nat} (h : j < k) : (xs.take k).getD j 0 = xs.getD j 0 := by
  simp [List.getD_eq_getElem?_getD, List.getElem?_take, h]
/-- A block more. -/
theorem ctrL_step (hE : ∀ x, (E x).length = 16) (text : List Int) (r m : Nat) (hm : m ≤ 16) (h : 16 * r + m ≤ text.length) : ctrL E c (text.take (16 * r + m)) = ctrL E c (text.take (16 * r)) ++ xorL ((text.drop (16 * r)).take m) ((E (incN r c)).take m) := by
  apply List.ext_getElem?
  intro j
  have l1 : (text.take (16 * r)).length = 16 * r := by rw [List.length_take]; omega
  have l2 : (text.take (16 * r + m)).length = 16 * r + m := by rw [List.length_take]; omega
  have l3 : ((text.drop (16 * r)).take m).length = m := by rw [List.length_take, List.length_drop]; omega
  have l4 : ((E (incN r c)).take m).length = m := by rw [List.length_take, hE]; omega
  by_cases h1 : j < 16 * r
  · rw [List.getElem?_append_left (by rw [ctrL_length, l1]; exact h1)]
    unfold ctrL
    rw [tab_get (by omega), tab_get (by omega), take_gd h1, take_gd (by omega)]
  · rw [List.getElem?_append_right (by rw [ctrL_length, l1]; omega), ctrL_length, l1]
    by_cases h2 : j < 16 * r + m
    · unfold ctrL xorL
      rw [tab_get (by omega), tab_get (by rw [l3]; omega), l4, if_pos (by omega), take_gd (by omega), take_gd (by omega), take_gd (by omega)]
      have e1 : j / 16 = r := by omega
      have e2 : j % 16 = j - 16 * r := by omega
      unfold keyB
      rw [e1, e2]
      congr 2
      simp [List.getD_eq_getElem?_getD, List.getElem?_drop, show 16 * r + (j - 16 * r) = j from by omega]
    · rw [List.getElem?_eq_none (by rw [ctrL_length, l2]; omega), List.getElem?_eq_none (by unfold xorL; rw [tab_length, l3]; omega)]
end
end Go.Proofs.Ythbgpbaneghmdaa.V
