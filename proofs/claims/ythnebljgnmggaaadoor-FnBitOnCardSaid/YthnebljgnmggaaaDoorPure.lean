/- Plain facts: lists that are told by a function of the place; bytes under or, xor and shifts. -/
import Derived.Test.YthnebljgnmggaaaDoorV
import Derived.Laws.BitsAllLaws
set_option linter.unusedVariables false
set_option linter.unusedSimpArgs false
namespace Go.Proofs.YthnebljgnmggaaaDoor.V
open Go.RowKit

theorem cong2 {α β γ : Type} (f : α → β → γ) {a a' : α} {b b' : β} (h : a = a') (h' : b = b') : f a b = f a' b' := by subst h; subst h'; rfl

def tab (n : Nat) (f : Nat → Int) : List Int := (List.range n).map f
theorem tab_length (n : Nat) (f : Nat → Int) : (tab n f).length = n := by simp [tab]
theorem tab_get {n : Nat} {f : Nat → Int} {i : Nat} (h : i < n) : (tab n f)[i]? = some (f i) := by simp [tab, h]
theorem tab_getD {n : Nat} {f : Nat → Int} {i : Nat} (h : i < n) : (tab n f).getD i 0 = f i := by rw [List.getD_eq_getElem?_getD, tab_get h]; rfl
theorem rd_tab {n : Nat} {f : Nat → Int} {i : Nat} (h : i < n) : rd (tab n f) (i : Int) = f i := by unfold rd; rw [Int.toNat_natCast]; exact tab_getD h
theorem tab_congr {n : Nat} {f g : Nat → Int} (h : ∀ i, i < n → f i = g i) : tab n f = tab n g := by
  unfold tab; exact List.map_congr_left fun i hi => h i (List.mem_range.1 hi)
theorem tab_set (n : Nat) (f : Nat → Int) (i : Nat) (v : Int) : (tab n f).set i v = tab n (fun j => if j = i then v else f j) := by
  apply List.ext_getElem?
  intro j
  by_cases hj : j < n
  · rw [tab_get hj, List.getElem?_set]
    by_cases e : i = j
    · subst e; simp [tab_length, hj]
    · rw [if_neg e, tab_get hj, if_neg (fun h => e h.symm)]
  · rw [List.getElem?_eq_none (by rw [List.length_set, tab_length]; omega), List.getElem?_eq_none (by rw [tab_length]; omega)]
theorem eq_tab (xs : List Int) : xs = tab xs.length (fun i => xs.getD i 0) := by
  apply List.ext_getElem?
  intro j
  by_cases hj : j < xs.length
  · rw [tab_get hj]; simp [List.getD_eq_getElem?_getD, List.getElem?_eq_getElem hj]
  · rw [List.getElem?_eq_none (by omega), List.getElem?_eq_none (by rw [tab_length]; omega)]
theorem tab_ext {xs : List Int} {n : Nat} {f : Nat → Int} (hn : xs.length = n) (h : ∀ i, i < n → xs.getD i 0 = f i) : xs = tab n f := by
  subst hn
  rw [eq_tab xs, tab_length]
  exact tab_congr h
theorem replicate_tab (n : Nat) (c : Int) : List.replicate n c = tab n (fun _ => c) := by
  unfold tab
  apply List.ext_getElem?
  intro j
  by_cases hj : j < n <;> simp [hj]
theorem tab_take (n : Nat) (f : Nat → Int) (m : Nat) (h : m ≤ n) : (tab n f).take m = tab m f := by
  refine tab_ext (by rw [List.length_take, tab_length]; omega) fun i hi => ?_
  rw [List.getD_eq_getElem?_getD, List.getElem?_take, if_pos hi, tab_get (by omega)]; rfl
theorem tab_byt {n : Nat} {f : Nat → Int} (h : ∀ i, i < n → 0 ≤ f i ∧ f i ≤ 255) : Byt (tab n f) := by
  intro x hx
  obtain ⟨i, hi, rfl⟩ := List.mem_map.1 hx
  exact h i (List.mem_range.1 hi)
theorem Byt.getD {xs : List Int} (h : Byt xs) (i : Nat) : 0 ≤ xs.getD i 0 ∧ xs.getD i 0 ≤ 255 := by
  have := h.rd (i : Int)
  unfold V.rd at this
  rwa [Int.toNat_natCast] at this
theorem rd_nat (xs : List Int) (i : Nat) : rd xs (i : Int) = xs.getD i 0 := by unfold rd; rw [Int.toNat_natCast]

/-! ### bytes -/
theorem bx_range (a b : Int) (ha : 0 ≤ a ∧ a ≤ 255) (hb : 0 ≤ b ∧ b ≤ 255) : 0 ≤ Go.bits .xor .u8 a b ∧ Go.bits .xor .u8 a b ≤ 255 := by
  rw [u8_xor a b (by omega) (by omega) (by omega) (by omega)]
  have : a.toNat ^^^ b.toNat < 2 ^ 8 := Nat.xor_lt_two_pow (by omega) (by omega)
  omega
theorem bo_range (a b : Int) (ha : 0 ≤ a ∧ a ≤ 255) (hb : 0 ≤ b ∧ b ≤ 255) : 0 ≤ Go.bits .or .u8 a b ∧ Go.bits .or .u8 a b ≤ 255 := by
  rw [u8_or a b (by omega) (by omega) (by omega) (by omega)]
  have : a.toNat ||| b.toNat < 2 ^ 8 := Nat.or_lt_two_pow (by omega) (by omega)
  omega
theorem bx_comm (a b : Int) (ha : 0 ≤ a ∧ a ≤ 255) (hb : 0 ≤ b ∧ b ≤ 255) : Go.bits .xor .u8 a b = Go.bits .xor .u8 b a := by
  rw [u8_xor a b (by omega) (by omega) (by omega) (by omega), u8_xor b a (by omega) (by omega) (by omega) (by omega), Nat.xor_comm]
theorem bx_assoc (a b c : Int) (ha : 0 ≤ a ∧ a ≤ 255) (hb : 0 ≤ b ∧ b ≤ 255) (hc : 0 ≤ c ∧ c ≤ 255) : Go.bits .xor .u8 (Go.bits .xor .u8 a b) c = Go.bits .xor .u8 a (Go.bits .xor .u8 b c) := by
  obtain ⟨a, rfl⟩ := Int.eq_ofNat_of_zero_le ha.1
  obtain ⟨b, rfl⟩ := Int.eq_ofNat_of_zero_le hb.1
  obtain ⟨c, rfl⟩ := Int.eq_ofNat_of_zero_le hc.1
  have h1 : a ^^^ b < 2 ^ 8 := Nat.xor_lt_two_pow (by omega) (by omega)
  have h2 : b ^^^ c < 2 ^ 8 := Nat.xor_lt_two_pow (by omega) (by omega)
  rw [u8_xor_nat a b (by omega) (by omega), u8_xor_nat b c (by omega) (by omega), u8_xor_nat _ c (by omega) (by omega), u8_xor_nat a _ (by omega) (by omega), Nat.xor_assoc]
theorem bx_self (a : Int) (ha : 0 ≤ a ∧ a ≤ 255) : Go.bits .xor .u8 a a = 0 := by
  rw [u8_xor a a (by omega) (by omega) (by omega) (by omega), Nat.xor_self]; rfl
theorem bx_zero (a : Int) (ha : 0 ≤ a ∧ a ≤ 255) : Go.bits .xor .u8 a 0 = a := by
  rw [u8_xor a 0 (by omega) (by omega) (by omega) (by omega), Int.toNat_zero, Nat.xor_zero]; omega

/-- x with y exclusive-ored into its first places. -/
def xorL (xs ys : List Int) : List Int := tab xs.length fun j => if j < ys.length then Go.bits .xor .u8 (xs.getD j 0) (ys.getD j 0) else xs.getD j 0
theorem xorL_length (xs ys : List Int) : (xorL xs ys).length = xs.length := tab_length _ _
theorem xorL_byt {xs ys : List Int} (h : Byt xs) (h' : Byt ys) : Byt (xorL xs ys) := tab_byt fun i _ => by
  split
  · exact bx_range _ _ (h.getD i) (h'.getD i)
  · exact h.getD i
end Go.Proofs.YthnebljgnmggaaaDoor.V
