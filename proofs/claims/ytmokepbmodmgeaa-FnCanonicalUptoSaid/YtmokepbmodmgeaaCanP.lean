/- Line ends turned to 13 10, in plain words: as the package's machine does it, and as the standard says it. -/
import Derived.Test.YtmokepbmodmgeaaBrief
set_option linter.unusedVariables false
set_option linter.unusedSimpArgs false
namespace Go.Proofs.Ytmokepbmodmgeaa
open Go.RowKit V
def outc (s : Nat) (c : Int) : List Int := if s = 0 ∧ c = 10 then [13, 10] else [c]
def stc (s : Nat) (c : Int) : Nat := if s = 0 ∧ c = 13 then 1 else 0
def canS (s : Nat) : List Int → List Int
  | [] => []
  | c :: cs => outc s c ++ canS (stc s c) cs
def stS (s : Nat) : List Int → Nat
  | [] => s
  | c :: cs => stS (stc s c) cs
theorem canS_append : ∀ (xs ys : List Int) (s : Nat), canS s (xs ++ ys) = canS s xs ++ canS (stS s xs) ys
  | [], ys, s => by simp [canS, stS]
  | c :: cs, ys, s => by simp [canS, stS, canS_append cs ys, List.append_assoc]
theorem stS_append : ∀ (xs ys : List Int) (s : Nat), stS s (xs ++ ys) = stS (stS s xs) ys
  | [], ys, s => by simp [stS]
  | c :: cs, ys, s => by simp [stS, stS_append cs ys]
theorem stS_le : ∀ (xs : List Int) (s : Nat), s ≤ 1 → stS s xs ≤ 1
  | [], s, h => h
  | c :: cs, s, h => stS_le cs _ (by unfold stc; split <;> omega)
theorem take_rd {xs : List Int} {k : Nat} (h : k < xs.length) : xs.take (k + 1) = xs.take k ++ [rd xs (k : Int)] := by
  have e : rd xs (k : Int) = xs[k] := by simp [rd, h, List.getD_eq_getElem?_getD]
  rw [e, List.take_add_one, List.getElem?_eq_getElem h]; rfl
theorem canS_step {xs : List Int} {k s : Nat} (h : k < xs.length) : canS s (xs.take (k + 1)) = canS s (xs.take k) ++ outc (stS s (xs.take k)) (rd xs (k : Int)) := by
  rw [take_rd h, canS_append]; simp [canS]
theorem stS_step {xs : List Int} {k s : Nat} (h : k < xs.length) : stS s (xs.take (k + 1)) = stc (stS s (xs.take k)) (rd xs (k : Int)) := by
  rw [take_rd h, stS_append]; simp [stS]
theorem canS_length : ∀ (xs : List Int) (s : Nat), (canS s xs).length ≤ 2 * xs.length
  | [], s => by simp [canS]
  | c :: cs, s => by
    have h := canS_length cs (stc s c)
    have h2 : (outc s c).length ≤ 2 := by unfold outc; split <;> simp
    simp only [canS, List.length_append, List.length_cons]; omega
/-- As the standard says it; p: the byte ahead. -/
def canP (p : Int) : List Int → List Int
  | [] => []
  | c :: cs => (if c = 10 ∧ p ≠ 13 then [13, c] else [c]) ++ canP c cs
theorem canP_append : ∀ (xs : List Int) (p c : Int), canP p (xs ++ [c]) = canP p xs ++ (if c = 10 ∧ xs.getLastD p ≠ 13 then [13, c] else [c])
  | [], p, c => by simp [canP]
  | x :: xs, p, c => by
    have e : (x :: xs).getLastD p = xs.getLastD x := by cases xs <;> simp [List.getLastD]
    simp only [List.cons_append, canP, canP_append xs x c, e, List.append_assoc]
theorem take_last {xs : List Int} {k : Nat} (h : k < xs.length) (p : Int) : (xs.take (k + 1)).getLastD p = rd xs (k : Int) := by
  rw [take_rd h]; simp
theorem canP_step0 {xs : List Int} (h : 0 < xs.length) : canP 0 (xs.take 1) = canP 0 (xs.take 0) ++ (if rd xs ((0 : Nat) : Int) = 10 then [13, rd xs ((0 : Nat) : Int)] else [rd xs ((0 : Nat) : Int)]) := by
  rw [take_rd h, canP_append]; simp
theorem canP_step {xs : List Int} {k : Nat} (h : k + 1 < xs.length) : canP 0 (xs.take (k + 1 + 1)) = canP 0 (xs.take (k + 1)) ++ (if rd xs ((k + 1 : Nat) : Int) = 10 ∧ rd xs (k : Int) ≠ 13 then [13, rd xs ((k + 1 : Nat) : Int)] else [rd xs ((k + 1 : Nat) : Int)]) := by
  rw [take_rd h, canP_append, take_last (by omega)]
theorem canP_length : ∀ (xs : List Int) (p : Int), (canP p xs).length ≤ 2 * xs.length
  | [], p => by simp [canP]
  | c :: cs, p => by
    have h := canP_length cs c
    simp only [canP, List.length_append, List.length_cons]
    split <;> simp <;> omega
def No2 (xs : List Int) : Prop := ∀ j : Nat, xs[j]? = some 13 → xs[j + 1]? = some 13 → False
theorem can_same : ∀ (xs : List Int) (p : Int) (s : Nat), (s = if p = 13 then 1 else 0) → (p = 13 → xs[0]? ≠ some 13) → No2 xs → canS s xs = canP p xs
  | [], p, s, _, _, _ => rfl
  | c :: cs, p, s, hs, hp, hn => by
    have hn2 : No2 cs := fun j h1 h2 => hn (j + 1) (by simpa using h1) (by simpa using h2)
    have h13 : c = 13 → cs[0]? ≠ some 13 := fun e h => hn 0 (by simp [e]) (by simpa using h)
    have hpc : p = 13 → c ≠ 13 := fun e e2 => hp e (by simp [e2])
    have h2 : stc s c = if c = 13 then 1 else 0 := by
      unfold stc; rw [hs]
      by_cases e : p = 13
      · have := hpc e; simp [e, this]
      · simp [e]
    have h1 : outc s c = if c = 10 ∧ p ≠ 13 then [13, c] else [c] := by
      unfold outc; rw [hs]
      by_cases e : p = 13
      · simp [e]
      · by_cases e2 : c = 10 <;> simp [e, e2]
    rw [canS, canP, h1, can_same cs c _ h2 h13 hn2]
theorem can_eq {xs : List Int} (h : No2 xs) : canS 0 xs = canP 0 xs := can_same xs 0 0 (by simp) (by simp) h
end Go.Proofs.Ytmokepbmodmgeaa
