/- The contract of spec.HashOf. (Printed by wip/hashes.py.) -/
import Derived.Test.YthambncffcphkaaDoorProg
import Derived.Test.YthambncffcphkaaDoorV2
set_option linter.unusedVariables false
set_option linter.unusedSimpArgs false
namespace Go.Proofs.YthambncffcphkaaDoor
open Go.RowKit V
def hashCells : List Value := [.int .i64 2, .int .i64 3, .int .i64 8, .int .i64 5, .int .i64 9, .int .i64 6, .int .i64 10, .int .i64 7, .int .i64 11, .int .i64 4, .int .i64 12, .int .i64 11, .int .i64 14, .int .i64 13]
def hashNo (h : Int) : Int := if h = 2 then 3 else if h = 8 then 5 else if h = 9 then 6 else if h = 10 then 7 else if h = 11 then 4 else if h = 12 then 11 else if h = 14 then 13 else 0
def hashIs (h : Int) : Bool := if h = 2 then true else if h = 8 then true else if h = 9 then true else if h = 10 then true else if h = 11 then true else if h = 12 then true else if h = 14 then true else false
def hashAt (j : Nat) : Int := ([2, 8, 9, 10, 11, 12, 14] : List Int).getD j 0
set_option maxRecDepth 100000 in
set_option maxHeartbeats 2000000 in
theorem hashOf_any (h : Int) (w : World) (h2 : ((h : Int) != 2) = true) : Calls Tryd.prog 23 #[.int .i64 h, .bool false] w fun e w' => e = .returned (.tuple #[.int .i64 (hashNo h), .bool (hashIs h)]) ∧ Chg NoB w w' := by
  go_enter Tryd.func23, Tryd.ntmps23
  go_wp2
  have B0 := As.mk (Blk.new w 91 hashCells)
  have C0 := As.mk ((Chg.refl NoB w).alloc (.cells hashCells.toArray 91))
  have hg0 : w.heap.size < (w.alloc (.cells hashCells.toArray 91)).heap.size := by simp
  go_loopw [4, 5, 7, 10] (fun _ _ _ i w' => ∃ k : Nat, k ≤ 7 ∧ i = .int .i64 k ∧ As (∀ j, j < k → hashAt j ≠ h) ∧ As (Blk w' w.heap.size 91 hashCells) ∧ As (Chg NoB w w')) (fun _ _ _ i _ => 7 - (intOf i).toNat)
  case atStart => exact ⟨0, Nat.zero_le _, rfl, ⟨fun j hj => absurd hj (Nat.not_lt_zero _)⟩, B0, C0⟩
  case round =>
    clear B0 C0
    obtain ⟨k, hk, rfl, HJ, HB, HC⟩ := hrel
    have hk7 : k = 0 ∨ k = 1 ∨ k = 2 ∨ k = 3 ∨ k = 4 ∨ k = 5 ∨ k = 6 ∨ k = 7 := by omega
    rcases hk7 with rfl | rfl | rfl | rfl | rfl | rfl | rfl | rfl
    · have c0 := HB.out.cell 0
      have c1 := HB.out.cell 1
      simp only [hashCells, List.getElem?_cons_zero, List.getElem?_cons_succ] at c0 c1
      by_cases he : (2 : Int) = h
      · subst he
        exact absurd h2 (by decide)
      · have hne : ((2 : Int) == h) = false := by simpa using he
        have HJ2 : As (∀ j, j < 1 → hashAt j ≠ h) := ⟨fun j hj => by
          rcases Nat.lt_or_ge j 0 with h1 | h1
          · exact HJ.out j h1
          · obtain rfl : j = 0 := by omega
            exact he⟩
        clear he
        go_wp2
        go_roundw
        case rel => exact ⟨1, by omega, rfl, HJ2, ⟨HB.out.alloc _⟩, ⟨HC.out.alloc _⟩⟩
        case measure => simp [intOf]
    · have c0 := HB.out.cell 2
      have c1 := HB.out.cell 3
      simp only [hashCells, List.getElem?_cons_zero, List.getElem?_cons_succ] at c0 c1
      by_cases he : (8 : Int) = h
      · subst he
        go_wp2
        go_ret2
        exact ⟨rfl, HC.out.alloc _⟩
      · have hne : ((8 : Int) == h) = false := by simpa using he
        have HJ2 : As (∀ j, j < 2 → hashAt j ≠ h) := ⟨fun j hj => by
          rcases Nat.lt_or_ge j 1 with h1 | h1
          · exact HJ.out j h1
          · obtain rfl : j = 1 := by omega
            exact he⟩
        clear he
        go_wp2
        go_roundw
        case rel => exact ⟨2, by omega, rfl, HJ2, ⟨HB.out.alloc _⟩, ⟨HC.out.alloc _⟩⟩
        case measure => simp [intOf]
    · have c0 := HB.out.cell 4
      have c1 := HB.out.cell 5
      simp only [hashCells, List.getElem?_cons_zero, List.getElem?_cons_succ] at c0 c1
      by_cases he : (9 : Int) = h
      · subst he
        go_wp2
        go_ret2
        exact ⟨rfl, HC.out.alloc _⟩
      · have hne : ((9 : Int) == h) = false := by simpa using he
        have HJ2 : As (∀ j, j < 3 → hashAt j ≠ h) := ⟨fun j hj => by
          rcases Nat.lt_or_ge j 2 with h1 | h1
          · exact HJ.out j h1
          · obtain rfl : j = 2 := by omega
            exact he⟩
        clear he
        go_wp2
        go_roundw
        case rel => exact ⟨3, by omega, rfl, HJ2, ⟨HB.out.alloc _⟩, ⟨HC.out.alloc _⟩⟩
        case measure => simp [intOf]
    · have c0 := HB.out.cell 6
      have c1 := HB.out.cell 7
      simp only [hashCells, List.getElem?_cons_zero, List.getElem?_cons_succ] at c0 c1
      by_cases he : (10 : Int) = h
      · subst he
        go_wp2
        go_ret2
        exact ⟨rfl, HC.out.alloc _⟩
      · have hne : ((10 : Int) == h) = false := by simpa using he
        have HJ2 : As (∀ j, j < 4 → hashAt j ≠ h) := ⟨fun j hj => by
          rcases Nat.lt_or_ge j 3 with h1 | h1
          · exact HJ.out j h1
          · obtain rfl : j = 3 := by omega
            exact he⟩
        clear he
        go_wp2
        go_roundw
        case rel => exact ⟨4, by omega, rfl, HJ2, ⟨HB.out.alloc _⟩, ⟨HC.out.alloc _⟩⟩
        case measure => simp [intOf]
    · have c0 := HB.out.cell 8
      have c1 := HB.out.cell 9
      simp only [hashCells, List.getElem?_cons_zero, List.getElem?_cons_succ] at c0 c1
      by_cases he : (11 : Int) = h
      · subst he
        go_wp2
        go_ret2
        exact ⟨rfl, HC.out.alloc _⟩
      · have hne : ((11 : Int) == h) = false := by simpa using he
        have HJ2 : As (∀ j, j < 5 → hashAt j ≠ h) := ⟨fun j hj => by
          rcases Nat.lt_or_ge j 4 with h1 | h1
          · exact HJ.out j h1
          · obtain rfl : j = 4 := by omega
            exact he⟩
        clear he
        go_wp2
        go_roundw
        case rel => exact ⟨5, by omega, rfl, HJ2, ⟨HB.out.alloc _⟩, ⟨HC.out.alloc _⟩⟩
        case measure => simp [intOf]
    · have c0 := HB.out.cell 10
      have c1 := HB.out.cell 11
      simp only [hashCells, List.getElem?_cons_zero, List.getElem?_cons_succ] at c0 c1
      by_cases he : (12 : Int) = h
      · subst he
        go_wp2
        go_ret2
        exact ⟨rfl, HC.out.alloc _⟩
      · have hne : ((12 : Int) == h) = false := by simpa using he
        have HJ2 : As (∀ j, j < 6 → hashAt j ≠ h) := ⟨fun j hj => by
          rcases Nat.lt_or_ge j 5 with h1 | h1
          · exact HJ.out j h1
          · obtain rfl : j = 5 := by omega
            exact he⟩
        clear he
        go_wp2
        go_roundw
        case rel => exact ⟨6, by omega, rfl, HJ2, ⟨HB.out.alloc _⟩, ⟨HC.out.alloc _⟩⟩
        case measure => simp [intOf]
    · have c0 := HB.out.cell 12
      have c1 := HB.out.cell 13
      simp only [hashCells, List.getElem?_cons_zero, List.getElem?_cons_succ] at c0 c1
      by_cases he : (14 : Int) = h
      · subst he
        go_wp2
        go_ret2
        exact ⟨rfl, HC.out.alloc _⟩
      · have hne : ((14 : Int) == h) = false := by simpa using he
        have HJ2 : As (∀ j, j < 7 → hashAt j ≠ h) := ⟨fun j hj => by
          rcases Nat.lt_or_ge j 6 with h1 | h1
          · exact HJ.out j h1
          · obtain rfl : j = 6 := by omega
            exact he⟩
        clear he
        go_wp2
        go_roundw
        case rel => exact ⟨7, by omega, rfl, HJ2, ⟨HB.out.alloc _⟩, ⟨HC.out.alloc _⟩⟩
        case measure => simp [intOf]
    · have HE : As (hashNo h = 0 ∧ hashIs h = false) := ⟨by
        have h0 : h ≠ 2 := fun e => HJ.out 0 (by omega) (by subst e; rfl)
        have h1 : h ≠ 8 := fun e => HJ.out 1 (by omega) (by subst e; rfl)
        have h2 : h ≠ 9 := fun e => HJ.out 2 (by omega) (by subst e; rfl)
        have h3 : h ≠ 10 := fun e => HJ.out 3 (by omega) (by subst e; rfl)
        have h4 : h ≠ 11 := fun e => HJ.out 4 (by omega) (by subst e; rfl)
        have h5 : h ≠ 12 := fun e => HJ.out 5 (by omega) (by subst e; rfl)
        have h6 : h ≠ 14 := fun e => HJ.out 6 (by omega) (by subst e; rfl)
        simp [hashNo, hashIs, h0, h1, h2, h3, h4, h5, h6]⟩
      go_wp2
      go_ret2
      exact ⟨by rw [HE.out.1, HE.out.2]; rfl, HC.out⟩
end Go.Proofs.YthambncffcphkaaDoor
