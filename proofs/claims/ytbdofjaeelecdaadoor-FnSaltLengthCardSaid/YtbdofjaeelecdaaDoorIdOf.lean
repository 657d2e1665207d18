/- The contract of spec.IdOf. (Printed by wip/hashes.py.) -/
import Derived.Test.YtbdofjaeelecdaaDoorProg
import Derived.Test.YtbdofjaeelecdaaDoorV2
set_option linter.unusedVariables false
set_option linter.unusedSimpArgs false
namespace Go.Proofs.YtbdofjaeelecdaaDoor
open Go.RowKit V
def hashCells : List Value := [.int .i64 2, .int .i64 3, .int .i64 8, .int .i64 5, .int .i64 9, .int .i64 6, .int .i64 10, .int .i64 7, .int .i64 11, .int .i64 4, .int .i64 12, .int .i64 11, .int .i64 14, .int .i64 13]
def idNo (h : Int) : Int := if h = 3 then 2 else if h = 5 then 8 else if h = 6 then 9 else if h = 7 then 10 else if h = 4 then 11 else if h = 11 then 12 else if h = 13 then 14 else 0
def idIs (h : Int) : Bool := if h = 3 then true else if h = 5 then true else if h = 6 then true else if h = 7 then true else if h = 4 then true else if h = 11 then true else if h = 13 then true else false
def idAt (j : Nat) : Int := ([3, 5, 6, 7, 4, 11, 13] : List Int).getD j 0
set_option maxRecDepth 100000 in
set_option maxHeartbeats 2000000 in
theorem idOf_any (h : Int) (w : World) : Calls Tryd.prog 5 #[.int .i64 h, .bool true] w fun e w' => e = .returned (.tuple #[.int .i64 (idNo h), .bool (idIs h)]) ∧ Chg NoB w w' := by
  go_enter Tryd.func5, Tryd.ntmps5
  go_wp2
  have B0 := As.mk (Blk.new w 37 hashCells)
  have C0 := As.mk ((Chg.refl NoB w).alloc (.cells hashCells.toArray 37))
  have hg0 : w.heap.size < (w.alloc (.cells hashCells.toArray 37)).heap.size := by simp
  go_loopw [4, 5, 7, 10] (fun _ _ _ i w' => ∃ k : Nat, k ≤ 7 ∧ i = .int .i64 k ∧ As (∀ j, j < k → idAt j ≠ h) ∧ As (Blk w' w.heap.size 37 hashCells) ∧ As (Chg NoB w w')) (fun _ _ _ i _ => 7 - (intOf i).toNat)
  case atStart => exact ⟨0, Nat.zero_le _, rfl, ⟨fun j hj => absurd hj (Nat.not_lt_zero _)⟩, B0, C0⟩
  case round =>
    clear B0 C0
    obtain ⟨k, hk, rfl, HJ, HB, HC⟩ := hrel
    have hk7 : k = 0 ∨ k = 1 ∨ k = 2 ∨ k = 3 ∨ k = 4 ∨ k = 5 ∨ k = 6 ∨ k = 7 := by omega
    rcases hk7 with rfl | rfl | rfl | rfl | rfl | rfl | rfl | rfl
    · have c0 := HB.out.cell 0
      have c1 := HB.out.cell 1
      simp only [hashCells, List.getElem?_cons_zero, List.getElem?_cons_succ] at c0 c1
      by_cases he : (3 : Int) = h
      · subst he
        go_wp2
        go_ret2
        exact ⟨rfl, HC.out.alloc _⟩
      · have hne : ((3 : Int) == h) = false := by simpa using he
        have HJ2 : As (∀ j, j < 1 → idAt j ≠ h) := ⟨fun j hj => by
          rcases Nat.lt_or_ge j 0 with h1 | h1
          · exact HJ.out j h1
          · obtain rfl : j = 0 := by omega
            exact he⟩
        clear he
        go_wp2
        go_roundw
        case rel => exact ⟨1, by omega, rfl, HJ2, ⟨HB.out.alloc _⟩, ⟨HC.out.alloc _⟩⟩
        case measure => simp [intOf]
    · have c0 := HB.out.cell 2
      have c1 := HB.out.cell 3
      simp only [hashCells, List.getElem?_cons_zero, List.getElem?_cons_succ] at c0 c1
      by_cases he : (5 : Int) = h
      · subst he
        go_wp2
        go_ret2
        exact ⟨rfl, HC.out.alloc _⟩
      · have hne : ((5 : Int) == h) = false := by simpa using he
        have HJ2 : As (∀ j, j < 2 → idAt j ≠ h) := ⟨fun j hj => by
          rcases Nat.lt_or_ge j 1 with h1 | h1
          · exact HJ.out j h1
          · obtain rfl : j = 1 := by omega
            exact he⟩
        clear he
        go_wp2
        go_roundw
        case rel => exact ⟨2, by omega, rfl, HJ2, ⟨HB.out.alloc _⟩, ⟨HC.out.alloc _⟩⟩
        case measure => simp [intOf]
    · have c0 := HB.out.cell 4
      have c1 := HB.out.cell 5
      simp only [hashCells, List.getElem?_cons_zero, List.getElem?_cons_succ] at c0 c1
      by_cases he : (6 : Int) = h
      · subst he
        go_wp2
        go_ret2
        exact ⟨rfl, HC.out.alloc _⟩
      · have hne : ((6 : Int) == h) = false := by simpa using he
        have HJ2 : As (∀ j, j < 3 → idAt j ≠ h) := ⟨fun j hj => by
          rcases Nat.lt_or_ge j 2 with h1 | h1
          · exact HJ.out j h1
          · obtain rfl : j = 2 := by omega
            exact he⟩
        clear he
        go_wp2
        go_roundw
        case rel => exact ⟨3, by omega, rfl, HJ2, ⟨HB.out.alloc _⟩, ⟨HC.out.alloc _⟩⟩
        case measure => simp [intOf]
    · have c0 := HB.out.cell 6
      have c1 := HB.out.cell 7
      simp only [hashCells, List.getElem?_cons_zero, List.getElem?_cons_succ] at c0 c1
      by_cases he : (7 : Int) = h
      · subst he
        go_wp2
        go_ret2
        exact ⟨rfl, HC.out.alloc _⟩
      · have hne : ((7 : Int) == h) = false := by simpa using he
        have HJ2 : As (∀ j, j < 4 → idAt j ≠ h) := ⟨fun j hj => by
          rcases Nat.lt_or_ge j 3 with h1 | h1
          · exact HJ.out j h1
          · obtain rfl : j = 3 := by omega
            exact he⟩
        clear he
        go_wp2
        go_roundw
        case rel => exact ⟨4, by omega, rfl, HJ2, ⟨HB.out.alloc _⟩, ⟨HC.out.alloc _⟩⟩
        case measure => simp [intOf]
    · have c0 := HB.out.cell 8
      have c1 := HB.out.cell 9
      simp only [hashCells, List.getElem?_cons_zero, List.getElem?_cons_succ] at c0 c1
      by_cases he : (4 : Int) = h
      · subst he
        go_wp2
        go_ret2
        exact ⟨rfl, HC.out.alloc _⟩
      · have hne : ((4 : Int) == h) = false := by simpa using he
        have HJ2 : As (∀ j, j < 5 → idAt j ≠ h) := ⟨fun j hj => by
          rcases Nat.lt_or_ge j 4 with h1 | h1
          · exact HJ.out j h1
          · obtain rfl : j = 4 := by omega
            exact he⟩
        clear he
        go_wp2
        go_roundw
        case rel => exact ⟨5, by omega, rfl, HJ2, ⟨HB.out.alloc _⟩, ⟨HC.out.alloc _⟩⟩
        case measure => simp [intOf]
    · have c0 := HB.out.cell 10
      have c1 := HB.out.cell 11
      simp only [hashCells, List.getElem?_cons_zero, List.getElem?_cons_succ] at c0 c1
      by_cases he : (11 : Int) = h
      · subst he
        go_wp2
        go_ret2
        exact ⟨rfl, HC.out.alloc _⟩
      · have hne : ((11 : Int) == h) = false := by simpa using he
        have HJ2 : As (∀ j, j < 6 → idAt j ≠ h) := ⟨fun j hj => by
          rcases Nat.lt_or_ge j 5 with h1 | h1
          · exact HJ.out j h1
          · obtain rfl : j = 5 := by omega
            exact he⟩
        clear he
        go_wp2
        go_roundw
        case rel => exact ⟨6, by omega, rfl, HJ2, ⟨HB.out.alloc _⟩, ⟨HC.out.alloc _⟩⟩
        case measure => simp [intOf]
    · have c0 := HB.out.cell 12
      have c1 := HB.out.cell 13
      simp only [hashCells, List.getElem?_cons_zero, List.getElem?_cons_succ] at c0 c1
      by_cases he : (13 : Int) = h
      · subst he
        go_wp2
        go_ret2
        exact ⟨rfl, HC.out.alloc _⟩
      · have hne : ((13 : Int) == h) = false := by simpa using he
        have HJ2 : As (∀ j, j < 7 → idAt j ≠ h) := ⟨fun j hj => by
          rcases Nat.lt_or_ge j 6 with h1 | h1
          · exact HJ.out j h1
          · obtain rfl : j = 6 := by omega
            exact he⟩
        clear he
        go_wp2
        go_roundw
        case rel => exact ⟨7, by omega, rfl, HJ2, ⟨HB.out.alloc _⟩, ⟨HC.out.alloc _⟩⟩
        case measure => simp [intOf]
    · have HE : As (idNo h = 0 ∧ idIs h = false) := ⟨by
        have h0 : h ≠ 3 := fun e => HJ.out 0 (by omega) (by subst e; rfl)
        have h1 : h ≠ 5 := fun e => HJ.out 1 (by omega) (by subst e; rfl)
        have h2 : h ≠ 6 := fun e => HJ.out 2 (by omega) (by subst e; rfl)
        have h3 : h ≠ 7 := fun e => HJ.out 3 (by omega) (by subst e; rfl)
        have h4 : h ≠ 4 := fun e => HJ.out 4 (by omega) (by subst e; rfl)
        have h5 : h ≠ 11 := fun e => HJ.out 5 (by omega) (by subst e; rfl)
        have h6 : h ≠ 13 := fun e => HJ.out 6 (by omega) (by subst e; rfl)
        simp [idNo, idIs, h0, h1, h2, h3, h4, h5, h6]⟩
      go_wp2
      go_ret2
      exact ⟨by rw [HE.out.1, HE.out.2]; rfl, HC.out⟩
end Go.Proofs.YtbdofjaeelecdaaDoor
