/- Plain facts: a list that has each number below its length just once; a block cipher of plain data. -/
import Derived.Test.YtlpningplmbnhaaDoorPure
set_option linter.unusedVariables false
set_option linter.unusedSimpArgs false
namespace Go.Proofs.YtlpningplmbnhaaDoor.V
open Go.RowKit
/-- How often a number stands in a list. -/
def cnt (u : Int) (xs : List Int) : Nat := xs.countP (fun x => decide (x = u))
/-- Each number below v stands there just once. -/
def Perms (xs : List Int) (v : Nat) : Prop := xs.length = v ∧ ∀ u, u < v → cnt (u : Int) xs = 1
instance (xs : List Int) (v : Nat) : Decidable (Perms xs v) := by unfold Perms; infer_instance
theorem cnt_append (u : Int) (xs ys : List Int) : cnt u (xs ++ ys) = cnt u xs + cnt u ys := by simp [cnt, List.countP_append]
theorem cnt_le (u : Int) (xs : List Int) : cnt u xs ≤ xs.length := List.countP_le_length
theorem cnt_take_step {u : Int} {xs : List Int} {k : Nat} (hk : k < xs.length) : cnt u (xs.take (k + 1)) = cnt u (xs.take k) + (if xs.getD k 0 = u then 1 else 0) := by
  rw [List.take_succ_eq_append_getElem hk, cnt_append]
  congr 1
  have : xs.getD k 0 = xs[k] := by simp [List.getD_eq_getElem?_getD, List.getElem?_eq_getElem hk]
  rw [this]
  by_cases h : xs[k] = u <;> simp [cnt, h]
theorem perms_below {xs : List Int} {v : Nat} (h : Perms xs v) : ∀ m, m ≤ v → xs.countP (fun x => decide (0 ≤ x ∧ x < (m : Int))) = m
  | 0, _ => by
    rw [List.countP_eq_zero]
    intro x _
    simp
  | m + 1, hm => by
    have ih := perms_below h m (by omega)
    have h1 := h.2 m (by omega)
    have key : ∀ ys : List Int, ys.countP (fun x => decide (0 ≤ x ∧ x < ((m + 1 : Nat) : Int))) = ys.countP (fun x => decide (0 ≤ x ∧ x < (m : Int))) + cnt (m : Int) ys := by
      intro ys
      induction ys with
      | nil => simp [cnt]
      | cons y ys ih =>
        unfold cnt at ih ⊢
        rw [List.countP_cons, List.countP_cons, List.countP_cons, ih]
        by_cases e : y = (m : Int)
        · subst e
          have a1 : ((0 : Int) ≤ (m : Int) ∧ (m : Int) < ((m + 1 : Nat) : Int)) := by omega
          have a2 : ¬ ((0 : Int) ≤ (m : Int) ∧ (m : Int) < (m : Int)) := by omega
          rw [decide_eq_true a1, decide_eq_false a2]
          simp
          omega
        · have a3 : ((0 : Int) ≤ y ∧ y < ((m + 1 : Nat) : Int)) ↔ ((0 : Int) ≤ y ∧ y < (m : Int)) := by omega
          simp only [a3, decide_eq_false e]
          simp
          omega
    rw [key, ih, h1]
theorem perms_range {xs : List Int} {v : Nat} (h : Perms xs v) : ∀ x ∈ xs, 0 ≤ x ∧ x < (v : Int) := by
  have h1 := perms_below h v (Nat.le_refl _)
  rw [← h.1] at h1
  have h2 := List.countP_eq_length.1 h1
  intro x hx
  have := of_decide_eq_true (h2 x hx)
  rw [h.1] at this
  exact this
theorem perms_at {xs : List Int} {v : Nat} (h : Perms xs v) (k : Nat) (hk : k < v) : 0 ≤ xs.getD k 0 ∧ xs.getD k 0 < (v : Int) := by
  have e : xs.getD k 0 = xs[k]'(by rw [h.1]; exact hk) := by simp [List.getD_eq_getElem?_getD, List.getElem?_eq_getElem (show k < xs.length by rw [h.1]; exact hk)]
  rw [e]
  exact perms_range h _ (List.getElem_mem _)
/-- What stands at k didn't stand before. -/
theorem perms_new {xs : List Int} {v : Nat} (h : Perms xs v) (k : Nat) (hk : k < v) : cnt (xs.getD k 0) (xs.take k) = 0 := by
  obtain ⟨h0, h1⟩ := perms_at h k hk
  obtain ⟨u, hu⟩ := Int.eq_ofNat_of_zero_le h0
  have h2 := h.2 u (by omega)
  rw [← hu] at h2
  have h3 := cnt_take_step (u := xs.getD k 0) (k := k) (xs := xs) (by rw [h.1]; exact hk)
  rw [if_pos rfl] at h3
  have h4 : cnt (xs.getD k 0) (xs.take (k + 1)) + cnt (xs.getD k 0) (xs.drop (k + 1)) = 1 := by rw [← cnt_append, List.take_append_drop]; exact h2
  omega
/-- What the cipher makes of the first bytes of a text. -/
def encL (perm sub mask : List Int) (xs : List Int) : List Int :=
  tab mask.length fun i => Go.bits .xor .u8 (sub.getD (xs.getD (perm.getD i 0).toNat 0).toNat 0) (mask.getD i 0)
theorem encL_length (perm sub mask xs : List Int) : (encL perm sub mask xs).length = mask.length := tab_length _ _
theorem encL_byt {perm sub mask : List Int} (xs : List Int) (hs : Byt sub) (hm : Byt mask) : Byt (encL perm sub mask xs) :=
  tab_byt fun i _ => bx_range _ _ (hs.getD _) (hm.getD _)
theorem encL_take {perm sub mask : List Int} {n : Nat} (hp : Perms perm n) (hm : mask.length = n) (xs : List Int) : encL perm sub mask (xs.take n) = encL perm sub mask xs := by
  unfold encL
  refine tab_congr fun i hi => ?_
  obtain ⟨h0, h1⟩ := perms_at hp i (by omega)
  have e : (xs.take n).getD (perm.getD i 0).toNat 0 = xs.getD (perm.getD i 0).toNat 0 := by
    generalize perm.getD i 0 = q at h0 h1
    rw [List.getD_eq_getElem?_getD, List.getD_eq_getElem?_getD, List.getElem?_take, if_pos (by omega)]
  rw [e]
end Go.Proofs.YtlpningplmbnhaaDoor.V
