/- The contracts of big.Int's Mul, Cmp, NewInt, num for numbers of at most one word. -/
import Derived.Test.YthnebljgnmggaaaDoorBgI
import Derived.Test.YthnebljgnmggaaaDoorBgG
set_option linter.unusedVariables false
set_option linter.unusedSimpArgs false
namespace Go.Proofs.YthnebljgnmggaaaDoor
open Go.RowKit V
attribute [local irreducible] wpStill
set_option maxRecDepth 100000 in
theorem MulSq_any {w : World} {base base' Z X a x : Nat} {FZ FX : Nat → Prop} (hz : It w base Z FZ a) (hx : It w base' X FX x) (hap : ∀ b, FZ b → ¬ FX b) (hb : base ≤ w.heap.size) (hb' : base ≤ base') (hl : x < 4294967296) :
    Calls Tryd.prog 13 #[.pointer (some ⟨Z, 0, none⟩), .pointer (some ⟨X, 0, none⟩), .pointer (some ⟨X, 0, none⟩)] w fun e w' => e = .returned (.pointer (some ⟨Z, 0, none⟩)) ∧ SetI w base Z FZ (x * x) w' := by
  have H := As.mk (mulSq_any hz hx hap hb hb' hl)
  obtain ⟨p, hp⟩ : ∃ p, p = x * x := ⟨_, rfl⟩
  rw [← hp] at H ⊢
  clear hz hx hap hb hb' hl hp
  go_enter Tryd.func13, Tryd.ntmps13
  go_wp2_with fail
  refine H.out.mono ?_
  rintro e1 w1 ⟨rfl, hS⟩
  have HS := As.mk hS
  clear hS
  go_wp2_with fail
  go_ret
  exact ⟨rfl, HS.out⟩
set_option maxRecDepth 100000 in
theorem MulIn_any {w : World} {base base' Z Y a y : Nat} {FZ FY : Nat → Prop} (hz : It w base Z FZ a) (hy : It w base' Y FY y) (hap : ∀ b, FZ b → ¬ FY b) (hb : base ≤ w.heap.size) (ha : a < 4294967296) (hl : y < 4294967296) :
    Calls Tryd.prog 13 #[.pointer (some ⟨Z, 0, none⟩), .pointer (some ⟨Z, 0, none⟩), .pointer (some ⟨Y, 0, none⟩)] w fun e w' => e = .returned (.pointer (some ⟨Z, 0, none⟩)) ∧ SetI w base Z FZ (a * y) w' := by
  have H := As.mk (mulIn_any hz hy hap hb ha hl)
  obtain ⟨p, hp⟩ : ∃ p, p = a * y := ⟨_, rfl⟩
  rw [← hp] at H ⊢
  clear hz hy hap hb ha hl hp
  go_enter Tryd.func13, Tryd.ntmps13
  go_wp2_with fail
  refine H.out.mono ?_
  rintro e1 w1 ⟨rfl, hS⟩
  have HS := As.mk hS
  clear hS
  go_wp2_with fail
  go_ret
  exact ⟨rfl, HS.out⟩
set_option maxRecDepth 100000 in
set_option maxHeartbeats 1000000 in
theorem Cmp_any {w : World} {base base2 X Y x y : Nat} {FX FY : Nat → Prop} (hx : It w base X FX x) (hy : It w base2 Y FY y) (hne : X ≠ Y) :
    Calls Tryd.prog 16 #[.pointer (some ⟨X, 0, none⟩), .pointer (some ⟨Y, 0, none⟩)] w fun e w' => e = .returned (.int .i64 (cmpI x y)) ∧ ∃ q, w' = w.drewN q := by
  obtain ⟨vx, hBx, hnx, _, _⟩ := hx.ex
  obtain ⟨vy, hBy, hny, _, _⟩ := hy.ex
  have heq := eqlI_apart (w := w) (a := ⟨X, 0, none⟩) (b := ⟨Y, 0, none⟩) hBx hBy (fun e => hne (by injection e))
  have x0 := hBx.cell 0
  have x1 := hBx.cell 1
  have y0 := hBy.cell 0
  have y1 := hBy.cell 1
  simp only [List.getElem?_cons_zero, List.getElem?_cons_succ] at x0 x1 y0 y1
  have H := As.mk (fun q : Nat => cmpN_any (hnx.keep ((Chg.refl _ w).drewN q)) (hny.keep ((Chg.refl _ w).drewN q)))
  obtain ⟨r, hr⟩ : ∃ r, r = cmpI x y := ⟨_, rfl⟩
  rw [← hr] at H ⊢
  clear hx hy hne hBx hnx hBy hny hr
  go_enter Tryd.func16, Tryd.ntmps16
  go_wp2_with fail
  go_quiet (fail)
  go_wp2_with fail
  obtain ⟨wq, hwq⟩ : ∃ wq, wq = w.drewN nq := ⟨_, rfl⟩
  have hx0 : wq.cell? ⟨X, 0, none⟩ = some (.bool false) := by rw [hwq]; exact x0
  have hx1 : wq.cell? ⟨X, 1, none⟩ = some vx := by rw [hwq]; exact x1
  have hy1 : wq.cell? ⟨Y, 1, none⟩ = some vy := by rw [hwq]; exact y1
  have H2 : As (∀ q : Nat, Calls Tryd.prog 24 #[vx, vy] (wq.drewN q) fun e w' => e = .returned (.int .i64 r) ∧ ∃ m, w' = (wq.drewN q).drewN m) := ⟨fun q => by rw [hwq, World.drewN_drewN]; exact H.out _⟩
  have HW := As.mk hwq
  rw [← hwq]
  clear hwq x0 x1 y0 y1 heq H
  go_quiet (exact Calls.quiet_of (H2.out _))
  go_wp2_with fail
  go_ret
  exact ⟨rfl, _, by rw [HW.out, World.drewN_drewN]⟩
/-- A new number. -/
def NewI (w : World) (base x : Nat) (e : Ending) (w' : World) : Prop := ∃ (Z : Nat) (F : Nat → Prop), e = .returned (.pointer (some ⟨Z, 0, none⟩)) ∧ It w' base Z F x ∧ Chg NoB w w' ∧ (∀ b, F b → w.heap.size ≤ b)
set_option maxRecDepth 100000 in
set_option maxHeartbeats 1000000 in
theorem NewInt_any {w : World} {base x : Nat} (hb : base ≤ w.heap.size) (hx : x < 4294967296) :
    Calls Tryd.prog 17 #[.int .i64 x] w (NewI w base x) := by
  by_cases h0 : x = 0
  · subst h0
    have HB := As.mk hb
    clear hb hx
    go_enter Tryd.func17, Tryd.ntmps17
    go_wp2_with fail
    go_ret
    exact ⟨w.heap.size, fun b => b = w.heap.size, rfl, ⟨⟨.slice none 0 0, Blk.new w 42 [.bool false, .slice none 0 0], .inl ⟨rfl, rfl⟩, (fun e => nomatch e), fun b => ⟨.inl, fun h => h.elim id (fun e => nomatch e)⟩⟩⟩, (Chg.refl _ _).alloc _, fun b e => Nat.le_of_eq e.symm⟩
  · have e1 : ¬ (x : Int) < 0 := by omega
    have e2 : ¬ (x : Int) = 0 := by omega
    have e3 : IntKind.u64.wrap (x : Int) = (x : Int) := wrapU x (by omega)
    have HB := As.mk (And.intro hb (And.intro hx h0))
    clear hb hx h0
    go_enter Tryd.func17, Tryd.ntmps17
    go_wp2_with fail
    go_ret
    have hsz : (w.alloc (.cells #[.int .u64 (x : Int)] 55)).heap.size = w.heap.size + 1 := Array.size_push _
    have b1 : Blk (w.alloc (.cells #[.int .u64 (x : Int)] 55)) w.heap.size 55 (nums .u64 [(x : Int)]) := Blk.new w _ _
    have b2 := b1.alloc (.cells #[.bool false, .slice (some ⟨w.heap.size, 0, none⟩) 1 1] 42)
    have b3 := Blk.new (w.alloc (.cells #[.int .u64 (x : Int)] 55)) 42 [.bool false, .slice (some ⟨w.heap.size, 0, none⟩) 1 1]
    rw [hsz] at b3
    obtain ⟨hb, hx, h0⟩ := HB.out
    have hF : ∀ b, (b = w.heap.size + 1 ∨ b = w.heap.size) ↔ b = w.heap.size + 1 ∨ (Value.slice (some ⟨w.heap.size, 0, none⟩) 1 1).ownBlock = some b := fun b => ⟨fun h => h.imp id (fun e => by rw [e]; rfl), fun h => h.imp id (fun e => by injection e with e; exact e.symm)⟩
    refine ⟨w.heap.size + 1, fun b => b = w.heap.size + 1 ∨ b = w.heap.size, rfl, ⟨⟨_, b3, .inr ⟨_, 1, 1, _, rfl, hb, b2, ⟨rfl, by omega⟩, by omega, .inr ⟨rfl, by omega, by omega, rfl⟩⟩, (fun e => by injection e with e; have e2 : w.heap.size = w.heap.size + 1 := e; omega), hF⟩⟩, ((Chg.refl _ _).alloc _).alloc _, fun b e => by omega⟩
set_option maxRecDepth 100000 in
theorem num_any {w : World} {base x : Nat} (hb : base ≤ w.heap.size) (hx : x < 4294967296) :
    Calls Tryd.prog 12 #[.int .i64 x] w (NewI w base x) := by
  have H := As.mk (NewInt_any hb hx)
  clear hb hx
  go_enter Tryd.func12, Tryd.ntmps12
  go_wp2_with fail
  refine H.out.mono ?_
  rintro e1 w1 ⟨Z, F, rfl, h1⟩
  have H1 := As.mk h1
  clear h1
  go_wp2_with fail
  go_ret
  exact ⟨Z, F, rfl, H1.out⟩
end Go.Proofs.YthnebljgnmggaaaDoor
