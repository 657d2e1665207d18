/- The contracts of laws.isHash and laws.isStretcher. (Printed by wip/strinis.py.) -/
import Derived.Test.YthambncffcphkaaDoorHashOf
import Derived.Test.YthambncffcphkaaDoorStretch
set_option linter.unusedVariables false
set_option linter.unusedSimpArgs false
namespace Go.Proofs.YthambncffcphkaaDoor
open Go.RowKit V
set_option maxRecDepth 100000 in
set_option maxHeartbeats 2000000 in
theorem hashOf_two (w : World) : Calls Tryd.prog 23 #[.int .i64 2, .bool false] w fun e w' => e = .returned (.tuple #[.int .i64 0, .bool false]) ∧ Chg NoB w w' := by
  go_enter Tryd.func23, Tryd.ntmps23
  go_wp2
  have B0 := As.mk (Blk.new w 91 hashCells)
  have C0 := As.mk ((Chg.refl NoB w).alloc (.cells hashCells.toArray 91))
  have hg0 : w.heap.size < (w.alloc (.cells hashCells.toArray 91)).heap.size := by simp
  go_loopw [4, 5, 7, 10] (fun _ _ _ i w' => ∃ k : Nat, k ≤ 7 ∧ i = .int .i64 k ∧ As (Blk w' w.heap.size 91 hashCells) ∧ As (Chg NoB w w')) (fun _ _ _ i _ => 7 - (intOf i).toNat)
  case atStart => exact ⟨0, Nat.zero_le _, rfl, B0, C0⟩
  case round =>
    clear B0 C0
    obtain ⟨k, hk, rfl, HB, HC⟩ := hrel
    have hk7 : k = 0 ∨ k = 1 ∨ k = 2 ∨ k = 3 ∨ k = 4 ∨ k = 5 ∨ k = 6 ∨ k = 7 := by omega
    rcases hk7 with rfl | rfl | rfl | rfl | rfl | rfl | rfl | rfl
    · have c0 := HB.out.cell 0
      have c1 := HB.out.cell 1
      simp only [hashCells, List.getElem?_cons_zero, List.getElem?_cons_succ] at c0 c1
      go_wp2
      go_roundw
      case rel => exact ⟨1, by omega, rfl, ⟨HB.out.alloc _⟩, ⟨HC.out.alloc _⟩⟩
      case measure => simp [intOf]
    · have c0 := HB.out.cell 2
      have c1 := HB.out.cell 3
      simp only [hashCells, List.getElem?_cons_zero, List.getElem?_cons_succ] at c0 c1
      go_wp2
      go_roundw
      case rel => exact ⟨2, by omega, rfl, ⟨HB.out.alloc _⟩, ⟨HC.out.alloc _⟩⟩
      case measure => simp [intOf]
    · have c0 := HB.out.cell 4
      have c1 := HB.out.cell 5
      simp only [hashCells, List.getElem?_cons_zero, List.getElem?_cons_succ] at c0 c1
      go_wp2
      go_roundw
      case rel => exact ⟨3, by omega, rfl, ⟨HB.out.alloc _⟩, ⟨HC.out.alloc _⟩⟩
      case measure => simp [intOf]
    · have c0 := HB.out.cell 6
      have c1 := HB.out.cell 7
      simp only [hashCells, List.getElem?_cons_zero, List.getElem?_cons_succ] at c0 c1
      go_wp2
      go_roundw
      case rel => exact ⟨4, by omega, rfl, ⟨HB.out.alloc _⟩, ⟨HC.out.alloc _⟩⟩
      case measure => simp [intOf]
    · have c0 := HB.out.cell 8
      have c1 := HB.out.cell 9
      simp only [hashCells, List.getElem?_cons_zero, List.getElem?_cons_succ] at c0 c1
      go_wp2
      go_roundw
      case rel => exact ⟨5, by omega, rfl, ⟨HB.out.alloc _⟩, ⟨HC.out.alloc _⟩⟩
      case measure => simp [intOf]
    · have c0 := HB.out.cell 10
      have c1 := HB.out.cell 11
      simp only [hashCells, List.getElem?_cons_zero, List.getElem?_cons_succ] at c0 c1
      go_wp2
      go_roundw
      case rel => exact ⟨6, by omega, rfl, ⟨HB.out.alloc _⟩, ⟨HC.out.alloc _⟩⟩
      case measure => simp [intOf]
    · have c0 := HB.out.cell 12
      have c1 := HB.out.cell 13
      simp only [hashCells, List.getElem?_cons_zero, List.getElem?_cons_succ] at c0 c1
      go_wp2
      go_roundw
      case rel => exact ⟨7, by omega, rfl, ⟨HB.out.alloc _⟩, ⟨HC.out.alloc _⟩⟩
      case measure => simp [intOf]
    · go_wp2
      go_ret2
      exact ⟨rfl, HC.out⟩
def SomeBool (w : World) (e : Ending) (w' : World) : Prop := ∃ b : Bool, e = .returned (.bool b) ∧ Chg NoB w w'
set_option maxHeartbeats 1000000 in
theorem isHash_any (h : Int) (w : World) : Calls Tryd.prog 18 #[.int .i64 h] w (SomeBool w) := by
  by_cases h2 : h = 2
  · subst h2
    go_enter Tryd.func18, Tryd.ntmps18
    go_wp2_with fail
    refine (hashOf_two _).mono ?_
    rintro e w1 ⟨rfl, hc⟩
    have HC := As.mk hc
    clear hc
    go_wp2_with fail
    go_ret
    exact ⟨_, rfl, HC.out⟩
  · have hb : (h != 2) = true := by simpa using h2
    go_enter Tryd.func18, Tryd.ntmps18
    go_wp2_with fail
    refine (hashOf_any h _ hb).mono ?_
    rintro e w1 ⟨rfl, hc⟩
    have HC := As.mk hc
    clear hc
    generalize hashNo h = q at *
    generalize hashIs h = b at *
    go_wp2_with fail
    go_ret
    exact ⟨_, rfl, HC.out⟩
/-- A struct by value in a block of its own: what is known of the block. -/
theorem boxed7 (w : World) (t : TypeId) (v0 v1 v2 v3 v4 v5 v6 : Value) : Blk (w.alloc (.cells #[v0, v1, v2, v3, v4, v5, v6] t)) w.heap.size t [v0, v1, v2, v3, v4, v5, v6] := Blk.new w t [v0, v1, v2, v3, v4, v5, v6]
set_option maxHeartbeats 1000000 in
theorem isStr_hash (k h cnt p y r : Int) (S : Value) (w : World) (hk4 : k ≠ 4) (hk5 : k ≠ 101) : Calls Tryd.prog 9 #[.agg #[.int .i64 k, .int .i64 h, S, .int .u8 cnt, .int .u8 p, .int .u8 y, .int .u8 r]] w (SomeBool w) := by
  have b4 : (k != 4) = true := by simpa using hk4
  have b5 : (k != 101) = true := by simpa using hk5
  clear hk4 hk5
  go_enter Tryd.func9, Tryd.ntmps9
  go_wp2_with fail
  refine (isHash_any h _).mono ?_
  rintro e w1 ⟨b, rfl, hc⟩
  have HC : As (Chg NoB w w1) := ⟨((Chg.refl NoB w).alloc _).trans hc (fun _ _ e => e)⟩
  clear hc
  go_wp2_with fail
  go_ret
  exact ⟨_, rfl, HC.out⟩
set_option maxHeartbeats 1000000 in
theorem isStr_gnu (h cnt p y r : Int) (S : Value) (w : World) : Calls Tryd.prog 9 #[.agg #[.int .i64 101, .int .i64 h, S, .int .u8 cnt, .int .u8 p, .int .u8 y, .int .u8 r]] w fun e w' => e = .returned (.bool false) ∧ Chg NoB w w' := by
  go_enter Tryd.func9, Tryd.ntmps9
  go_wp2_with fail
  go_ret
  exact ⟨rfl, (Chg.refl NoB w).alloc _⟩
/-- What isStretcher answers of Argon2's numbers. -/
def ArgOf (w : World) (p y r : Int) (e : Ending) (w' : World) : Prop :=
  Chg NoB w w' ∧ (e = .returned (.bool false) ∨ (e = .returned (.bool true) ∧ p ≠ 0 ∧ y ≠ 0 ∧ r ≤ 31 ∧ ∃ m : Nat, 3 ≤ m ∧ m ≤ 11 ∧ (m : Int) ≤ r ∧ y * 8 ≤ (2 ^ m : Nat)))
set_option maxRecDepth 100000 in
set_option maxHeartbeats 4000000 in
theorem isStr_argon (h cnt p y r : Int) (S : Value) (w : World) (p0 : 0 ≤ p) (p1 : p ≤ 255) (y0 : 0 ≤ y) (y1 : y ≤ 255) (r0 : 0 ≤ r) (r1 : r ≤ 255) :
    Calls Tryd.prog 9 #[.agg #[.int .i64 4, .int .i64 h, S, .int .u8 cnt, .int .u8 p, .int .u8 y, .int .u8 r]] w (ArgOf w p y r) := by
  by_cases hp : p = 0
  · subst hp
    go_enter Tryd.func9, Tryd.ntmps9
    go_wp2_with fail
    go_ret
    exact ⟨(Chg.refl NoB w).alloc _, .inl rfl⟩
  · have bp : (p == 0) = false := by simpa using hp
    by_cases hy : y = 0
    · subst hy
      have HP := As.mk hp
      clear hp
      go_enter Tryd.func9, Tryd.ntmps9
      go_wp2_with fail
      go_ret
      exact ⟨(Chg.refl NoB w).alloc _, .inl rfl⟩
    · have by_ : (y == 0) = false := by simpa using hy
      have HPY := As.mk (And.intro hp hy)
      clear hp hy
      by_cases hr : 31 < r
      · go_enter Tryd.func9, Tryd.ntmps9
        go_wp2_with fail
        go_ret
        exact ⟨(Chg.refl NoB w).alloc _, .inl rfl⟩
      · have B0 := As.mk (boxed7 w 32 (.int .i64 4) (.int .i64 h) S (.int .u8 cnt) (.int .u8 p) (.int .u8 y) (.int .u8 r))
        have C0 := As.mk ((Chg.refl NoB w).alloc (.cells #[.int .i64 4, .int .i64 h, S, .int .u8 cnt, .int .u8 p, .int .u8 y, .int .u8 r] 32))
        have hr' : r ≤ 31 := by omega
        go_enter Tryd.func9, Tryd.ntmps9
        go_wp2_with fail
        go_loopw [3] (fun i w' => ∃ m : Nat, 3 ≤ m ∧ m ≤ 11 ∧ i = .int .i64 m ∧ As (Blk w' w.heap.size 32 [.int .i64 4, .int .i64 h, S, .int .u8 cnt, .int .u8 p, .int .u8 y, .int .u8 r]) ∧ As (Chg NoB w w')) (fun i _ => 11 - (intOf i).toNat)
        case atStart => exact ⟨3, by omega, by omega, rfl, B0, C0⟩
        case round =>
          clear B0 C0
          obtain ⟨m, hm3, hm11, rfl, HB, HC⟩ := hrel
          have z5 := HB.out.cell 5
          have z6 := HB.out.cell 6
          simp only [List.getElem?_cons_zero, List.getElem?_cons_succ] at z5 z6
          have hm : m = 3 ∨ m = 4 ∨ m = 5 ∨ m = 6 ∨ m = 7 ∨ m = 8 ∨ m = 9 ∨ m = 10 ∨ m = 11 := by omega
          clear hm3 hm11
          rcases hm with rfl | rfl | rfl | rfl | rfl | rfl | rfl | rfl | rfl
          · by_cases hlt : (1 : Int) < y
            · go_wp2_with fail
              go_quiet (fail)
              go_wp2_with fail
              go_roundw
              case rel => exact ⟨4, by omega, by omega, rfl, ⟨HB.out.drewN _⟩, ⟨HC.out.drewN _⟩⟩
              case measure => simp [intOf]
            · by_cases hge : (3 : Int) ≤ r
              · go_wp2_with fail
                go_quiet (fail)
                go_wp2_with fail
                go_ret
                exact ⟨HC.out.drewN _, .inr ⟨rfl, HPY.out.1, HPY.out.2, hr', 3, by omega, by omega, hge, by simp; omega⟩⟩
              · go_wp2_with fail
                go_quiet (fail)
                go_wp2_with fail
                go_ret
                exact ⟨HC.out.drewN _, .inl (congrArg (fun b => Ending.returned (.bool b)) (decide_eq_false (by omega)))⟩
          · by_cases hlt : (2 : Int) < y
            · go_wp2_with fail
              go_quiet (fail)
              go_wp2_with fail
              go_roundw
              case rel => exact ⟨5, by omega, by omega, rfl, ⟨HB.out.drewN _⟩, ⟨HC.out.drewN _⟩⟩
              case measure => simp [intOf]
            · by_cases hge : (4 : Int) ≤ r
              · go_wp2_with fail
                go_quiet (fail)
                go_wp2_with fail
                go_ret
                exact ⟨HC.out.drewN _, .inr ⟨rfl, HPY.out.1, HPY.out.2, hr', 4, by omega, by omega, hge, by simp; omega⟩⟩
              · go_wp2_with fail
                go_quiet (fail)
                go_wp2_with fail
                go_ret
                exact ⟨HC.out.drewN _, .inl (congrArg (fun b => Ending.returned (.bool b)) (decide_eq_false (by omega)))⟩
          · by_cases hlt : (4 : Int) < y
            · go_wp2_with fail
              go_quiet (fail)
              go_wp2_with fail
              go_roundw
              case rel => exact ⟨6, by omega, by omega, rfl, ⟨HB.out.drewN _⟩, ⟨HC.out.drewN _⟩⟩
              case measure => simp [intOf]
            · by_cases hge : (5 : Int) ≤ r
              · go_wp2_with fail
                go_quiet (fail)
                go_wp2_with fail
                go_ret
                exact ⟨HC.out.drewN _, .inr ⟨rfl, HPY.out.1, HPY.out.2, hr', 5, by omega, by omega, hge, by simp; omega⟩⟩
              · go_wp2_with fail
                go_quiet (fail)
                go_wp2_with fail
                go_ret
                exact ⟨HC.out.drewN _, .inl (congrArg (fun b => Ending.returned (.bool b)) (decide_eq_false (by omega)))⟩
          · by_cases hlt : (8 : Int) < y
            · go_wp2_with fail
              go_quiet (fail)
              go_wp2_with fail
              go_roundw
              case rel => exact ⟨7, by omega, by omega, rfl, ⟨HB.out.drewN _⟩, ⟨HC.out.drewN _⟩⟩
              case measure => simp [intOf]
            · by_cases hge : (6 : Int) ≤ r
              · go_wp2_with fail
                go_quiet (fail)
                go_wp2_with fail
                go_ret
                exact ⟨HC.out.drewN _, .inr ⟨rfl, HPY.out.1, HPY.out.2, hr', 6, by omega, by omega, hge, by simp; omega⟩⟩
              · go_wp2_with fail
                go_quiet (fail)
                go_wp2_with fail
                go_ret
                exact ⟨HC.out.drewN _, .inl (congrArg (fun b => Ending.returned (.bool b)) (decide_eq_false (by omega)))⟩
          · by_cases hlt : (16 : Int) < y
            · go_wp2_with fail
              go_quiet (fail)
              go_wp2_with fail
              go_roundw
              case rel => exact ⟨8, by omega, by omega, rfl, ⟨HB.out.drewN _⟩, ⟨HC.out.drewN _⟩⟩
              case measure => simp [intOf]
            · by_cases hge : (7 : Int) ≤ r
              · go_wp2_with fail
                go_quiet (fail)
                go_wp2_with fail
                go_ret
                exact ⟨HC.out.drewN _, .inr ⟨rfl, HPY.out.1, HPY.out.2, hr', 7, by omega, by omega, hge, by simp; omega⟩⟩
              · go_wp2_with fail
                go_quiet (fail)
                go_wp2_with fail
                go_ret
                exact ⟨HC.out.drewN _, .inl (congrArg (fun b => Ending.returned (.bool b)) (decide_eq_false (by omega)))⟩
          · by_cases hlt : (32 : Int) < y
            · go_wp2_with fail
              go_quiet (fail)
              go_wp2_with fail
              go_roundw
              case rel => exact ⟨9, by omega, by omega, rfl, ⟨HB.out.drewN _⟩, ⟨HC.out.drewN _⟩⟩
              case measure => simp [intOf]
            · by_cases hge : (8 : Int) ≤ r
              · go_wp2_with fail
                go_quiet (fail)
                go_wp2_with fail
                go_ret
                exact ⟨HC.out.drewN _, .inr ⟨rfl, HPY.out.1, HPY.out.2, hr', 8, by omega, by omega, hge, by simp; omega⟩⟩
              · go_wp2_with fail
                go_quiet (fail)
                go_wp2_with fail
                go_ret
                exact ⟨HC.out.drewN _, .inl (congrArg (fun b => Ending.returned (.bool b)) (decide_eq_false (by omega)))⟩
          · by_cases hlt : (64 : Int) < y
            · go_wp2_with fail
              go_quiet (fail)
              go_wp2_with fail
              go_roundw
              case rel => exact ⟨10, by omega, by omega, rfl, ⟨HB.out.drewN _⟩, ⟨HC.out.drewN _⟩⟩
              case measure => simp [intOf]
            · by_cases hge : (9 : Int) ≤ r
              · go_wp2_with fail
                go_quiet (fail)
                go_wp2_with fail
                go_ret
                exact ⟨HC.out.drewN _, .inr ⟨rfl, HPY.out.1, HPY.out.2, hr', 9, by omega, by omega, hge, by simp; omega⟩⟩
              · go_wp2_with fail
                go_quiet (fail)
                go_wp2_with fail
                go_ret
                exact ⟨HC.out.drewN _, .inl (congrArg (fun b => Ending.returned (.bool b)) (decide_eq_false (by omega)))⟩
          · by_cases hlt : (128 : Int) < y
            · go_wp2_with fail
              go_quiet (fail)
              go_wp2_with fail
              go_roundw
              case rel => exact ⟨11, by omega, by omega, rfl, ⟨HB.out.drewN _⟩, ⟨HC.out.drewN _⟩⟩
              case measure => simp [intOf]
            · by_cases hge : (10 : Int) ≤ r
              · go_wp2_with fail
                go_quiet (fail)
                go_wp2_with fail
                go_ret
                exact ⟨HC.out.drewN _, .inr ⟨rfl, HPY.out.1, HPY.out.2, hr', 10, by omega, by omega, hge, by simp; omega⟩⟩
              · go_wp2_with fail
                go_quiet (fail)
                go_wp2_with fail
                go_ret
                exact ⟨HC.out.drewN _, .inl (congrArg (fun b => Ending.returned (.bool b)) (decide_eq_false (by omega)))⟩
          · have hlt : ¬ (256 : Int) < y := by omega
            by_cases hge : (11 : Int) ≤ r
            · go_wp2_with fail
              go_quiet (fail)
              go_wp2_with fail
              go_ret
              exact ⟨HC.out.drewN _, .inr ⟨rfl, HPY.out.1, HPY.out.2, hr', 11, by omega, by omega, hge, by simp; omega⟩⟩
            · go_wp2_with fail
              go_quiet (fail)
              go_wp2_with fail
              go_ret
              exact ⟨HC.out.drewN _, .inl (congrArg (fun b => Ending.returned (.bool b)) (decide_eq_false (by omega)))⟩
end Go.Proofs.YthambncffcphkaaDoor
