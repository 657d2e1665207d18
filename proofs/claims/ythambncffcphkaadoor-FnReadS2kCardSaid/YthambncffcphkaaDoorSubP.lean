/- Subpackets in plain words: the head of one, one, all of an area. -/
import Derived.Test.YthambncffcphkaaDoorRow
import Derived.Test.YthambncffcphkaaDoorBitsP
set_option linter.unusedVariables false
set_option linter.unusedSimpArgs false
namespace Go.Proofs.YthambncffcphkaaDoor
open Go.RowKit V
/-- A subpacket's length: how many octets it has itself, what it says. -/
def subHead (xs : List Int) : Option (Nat × Nat) :=
  if xs.length = 0 then none
  else if rd xs 0 < 192 then some (1, (rd xs 0).toNat)
  else if rd xs 0 < 255 then (if xs.length < 2 then none else some (2, ((rd xs 0 - 192) * 256 + rd xs 1 + 192).toNat))
  else if xs.length < 5 then none else some (5, (numL (xs.tail.take 4)).toNat)
def sub1 (xs : List Int) : Option (Nat × Nat) :=
  match subHead xs with
  | none => none
  | some (o, n) => if n = 0 ∨ xs.length < o + n then none else some (o, n)
theorem subHead_pos {xs : List Int} {o n : Nat} (h : subHead xs = some (o, n)) : 1 ≤ o ∧ o ≤ 5 ∧ o ≤ xs.length := by
  unfold subHead at h
  split at h
  · cases h
  · split at h
    · injection h with h; injection h with h1 h2; omega
    · split at h
      · split at h
        · cases h
        · injection h with h; injection h with h1 h2; omega
      · split at h
        · cases h
        · injection h with h; injection h with h1 h2; omega
theorem sub1_pos {xs : List Int} {o n : Nat} (h : sub1 xs = some (o, n)) : 1 ≤ o ∧ o ≤ 5 ∧ 1 ≤ n ∧ o + n ≤ xs.length := by
  unfold sub1 at h
  split at h
  · cases h
  · next o' n' hh =>
    split at h
    · cases h
    · injection h with h; injection h with h1 h2
      subst h1 h2
      have := subHead_pos hh
      omega
theorem sub1_nil : sub1 [] = none := rfl
/-- What one subpacket is. -/
def itemOf (ys : List Int) (o n : Nat) : SubIt := (rd ys (o : Int), ys.take o, (ys.drop (o + 1)).take (n - 1))
def subsF : Nat → List Int → Option (List SubIt)
  | 0, _ => none
  | k + 1, xs => if xs.length = 0 then some [] else
    match sub1 xs with
    | none => none
    | some (o, n) => (subsF k (xs.drop (o + n))).map (itemOf xs o n :: ·)
/-- All subpackets of an area. -/
def subsA (xs : List Int) : Option (List SubIt) := subsF (xs.length + 1) xs
theorem subsF_any : ∀ (k m : Nat) (xs : List Int), xs.length < k → xs.length < m → subsF k xs = subsF m xs
  | 0, _, xs, h, _ => by omega
  | _, 0, xs, _, h => by omega
  | k + 1, m + 1, xs, h1, h2 => by
    unfold subsF
    by_cases h0 : xs.length = 0
    · rw [if_pos h0, if_pos h0]
    · rw [if_neg h0, if_neg h0]
      cases hs : sub1 xs with
      | none => rfl
      | some p =>
        obtain ⟨o, n⟩ := p
        have := sub1_pos hs
        simp only
        rw [subsF_any k m (xs.drop (o + n)) (by rw [List.length_drop]; omega) (by rw [List.length_drop]; omega)]
theorem subsA_nil {xs : List Int} (h : xs.length = 0) : subsA xs = some [] := by unfold subsA subsF; rw [if_pos h]
theorem subsA_none {xs : List Int} (h : 0 < xs.length) (hs : sub1 xs = none) : subsA xs = none := by unfold subsA subsF; rw [if_neg (by omega), hs]
theorem subsA_some {xs : List Int} {o n : Nat} (hs : sub1 xs = some (o, n)) : subsA xs = (subsA (xs.drop (o + n))).map (itemOf xs o n :: ·) := by
  have := sub1_pos hs
  conv => lhs; unfold subsA subsF
  rw [if_neg (by omega), hs]
  simp only
  unfold subsA
  rw [subsF_any xs.length ((xs.drop (o + n)).length + 1) _ (by rw [List.length_drop]; omega) (by omega)]
/-- One step of a loop over an area. -/
theorem subsA_step {xs ys : List Int} {l : List SubIt} {o n : Nat} (h : subsA xs = (subsA ys).map (l ++ ·)) (hs : sub1 ys = some (o, n)) : subsA xs = (subsA (ys.drop (o + n))).map ((l ++ [itemOf ys o n]) ++ ·) := by
  rw [h, subsA_some hs]
  cases subsA (ys.drop (o + n)) <;> simp
theorem subsA_end {xs ys : List Int} {l : List SubIt} (h : subsA xs = (subsA ys).map (l ++ ·)) (h0 : ys.length = 0) : subsA xs = some l := by
  rw [h, subsA_nil h0]; simp
theorem subsA_bad {xs ys : List Int} {l : List SubIt} (h : subsA xs = (subsA ys).map (l ++ ·)) (h0 : 0 < ys.length) (hs : sub1 ys = none) : subsA xs = none := by
  rw [h, subsA_none h0 hs]; rfl
end Go.Proofs.YthambncffcphkaaDoor
