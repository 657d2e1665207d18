/- The contract of spec.ReadStretcher. (Printed by wip/s2k.py.) -/
import Derived.Test.YthambncffcphkaaDoorBase
import Derived.Test.YthambncffcphkaaDoorRow
import Derived.Test.YthambncffcphkaaDoorReadSub
import Derived.Laws.BytesArg
import Derived.BigRegion
set_option linter.unusedVariables false
set_option linter.unusedSimpArgs false
namespace Go.Proofs.YthambncffcphkaaDoor
open Go.RowKit V
def zStr : List Value := [.int .i64 0, .int .i64 0, .slice none 0 0, .int .u8 0, .int .u8 0, .int .u8 0, .int .u8 0]
/-- A specifier that was read. -/
def StrOf (w : World) (k h : Int) (salt : List Int) (cnt p y r : Int) (size : Int) (e : Ending) (w' : World) : Prop :=
  Chg NoB w w' ∧ ∃ (A : Option Addr) (n c : Nat), n = salt.length ∧ e = .returned (.tuple #[.agg #[.int .i64 k, .int .i64 h, .slice A n c, .int .u8 cnt, .int .u8 p, .int .u8 y, .int .u8 r], .int .i64 size, .int .i64 0]) ∧ Rb w' A salt
/-- None was read. -/
def StrBad (w : World) (e : Ending) (w' : World) : Prop :=
  Chg NoB w w' ∧ ∃ h : Int, h ≠ 0 ∧ e = .returned (.tuple #[.agg #[.int .i64 0, .int .i64 0, .slice none 0 0, .int .u8 0, .int .u8 0, .int .u8 0, .int .u8 0], .int .i64 0, .int .i64 h])

set_option maxRecDepth 100000 in
set_option maxHeartbeats 4000000 in
theorem stretch_empty (A : Option Addr) (L c : Nat) (xs : List Int) (w : World) (hn : L = xs.length) (hnc : L ≤ c) (hx : Rb w A xs) (hb : Byt xs) (hl : L ≤ 1048576) (h0 : L = 0) :
    Calls Tryd.prog 8 #[.slice A L c] w (StrBad w) := by
  have HX := As.mk hx
  have HN := As.mk hn
  have HBY := As.mk hb
  clear hx hn hb
  subst h0
  go_enter Tryd.func8, Tryd.ntmps8
  go_wp2_with fail
  refine bodyPost_ret (v := .tuple #[.agg #[.int .i64 0, .int .i64 0, .slice none 0 0, .int .u8 0, .int .u8 0, .int .u8 0, .int .u8 0], .int .i64 0, .int .i64 1]) ?_ rfl ⟨by repeat (first | exact Chg.refl _ _ | exact (Chg.refl NoB w).alloc _ | (with_reducible apply Chg.alloc) | (with_reducible apply Chg.drewN) | (refine Chg.setCell ?_ _ (fun h => absurd h (Nat.lt_irrefl _)))), 1, by decide, rfl⟩
  · rw [results_cell_tmp2 rfl]
    go_simp
set_option maxRecDepth 100000 in
set_option maxHeartbeats 4000000 in
theorem stretch_short0 (A : Option Addr) (L c : Nat) (xs : List Int) (w : World) (hn : L = xs.length) (hnc : L ≤ c) (hx : Rb w A xs) (hb : Byt xs) (hl : L ≤ 1048576) (hk : rd xs 0 = 0) (h1 : 0 < L) (h2 : L < 2) :
    Calls Tryd.prog 8 #[.slice A L c] w (StrBad w) := by
  have HX := As.mk hx
  have HN := As.mk hn
  have HBY := As.mk hb
  clear hx hn hb
  obtain ⟨a0, rfl, _⟩ := HX.out.at_ 0 (by omega) (by have := HN.out; omega)
  have HCA : As (∀ w', Chg NoB w w' → ∀ i : Nat, i < L → w'.cell? (a0.add i) = some (.int .u8 (rd xs i))) := ⟨fun w' hc i hi => by
    obtain ⟨ad, e, hc⟩ := (HX.out.keep hc).at_ (i : Int) (by omega) (by have := HN.out; omega)
    injection e with e
    subst e
    simpa using hc⟩
  have hLz : ((L : Int) == 0) = false := by simp; omega
  have hLp : (0 : Int) < (L : Int) := by omega
  have hcA : ∀ o, (w.alloc o).cell? a0 = some (.int .u8 0) := fun o => by
    have := HCA.out (w.alloc o) ((Chg.refl _ _).alloc o) 0 (by omega)
    rw [show rd xs ((0 : Nat) : Int) = 0 from hk] at this
    simpa [Addr.add] using this
  have hlt : (L : Int) < 2 := by omega
  clear hk
  go_enter Tryd.func8, Tryd.ntmps8
  go_wp2_with fail
  refine bodyPost_ret (v := .tuple #[.agg #[.int .i64 0, .int .i64 0, .slice none 0 0, .int .u8 0, .int .u8 0, .int .u8 0, .int .u8 0], .int .i64 0, .int .i64 1]) ?_ rfl ⟨by repeat (first | exact Chg.refl _ _ | exact (Chg.refl NoB w).alloc _ | (with_reducible apply Chg.alloc) | (with_reducible apply Chg.drewN) | (refine Chg.setCell ?_ _ (fun h => absurd h (Nat.lt_irrefl _)))), 1, by decide, rfl⟩
  · rw [results_cell_tmp2 rfl]
    go_simp
set_option maxRecDepth 100000 in
set_option maxHeartbeats 4000000 in
theorem stretch_short1 (A : Option Addr) (L c : Nat) (xs : List Int) (w : World) (hn : L = xs.length) (hnc : L ≤ c) (hx : Rb w A xs) (hb : Byt xs) (hl : L ≤ 1048576) (hk : rd xs 0 = 1) (h1 : 0 < L) (h2 : L < 10) :
    Calls Tryd.prog 8 #[.slice A L c] w (StrBad w) := by
  have HX := As.mk hx
  have HN := As.mk hn
  have HBY := As.mk hb
  clear hx hn hb
  obtain ⟨a0, rfl, _⟩ := HX.out.at_ 0 (by omega) (by have := HN.out; omega)
  have HCA : As (∀ w', Chg NoB w w' → ∀ i : Nat, i < L → w'.cell? (a0.add i) = some (.int .u8 (rd xs i))) := ⟨fun w' hc i hi => by
    obtain ⟨ad, e, hc⟩ := (HX.out.keep hc).at_ (i : Int) (by omega) (by have := HN.out; omega)
    injection e with e
    subst e
    simpa using hc⟩
  have hLz : ((L : Int) == 0) = false := by simp; omega
  have hLp : (0 : Int) < (L : Int) := by omega
  have hcA : ∀ o, (w.alloc o).cell? a0 = some (.int .u8 1) := fun o => by
    have := HCA.out (w.alloc o) ((Chg.refl _ _).alloc o) 0 (by omega)
    rw [show rd xs ((0 : Nat) : Int) = 1 from hk] at this
    simpa [Addr.add] using this
  have hlt : (L : Int) < 10 := by omega
  clear hk
  go_enter Tryd.func8, Tryd.ntmps8
  go_wp2_with fail
  refine bodyPost_ret (v := .tuple #[.agg #[.int .i64 0, .int .i64 0, .slice none 0 0, .int .u8 0, .int .u8 0, .int .u8 0, .int .u8 0], .int .i64 0, .int .i64 1]) ?_ rfl ⟨by repeat (first | exact Chg.refl _ _ | exact (Chg.refl NoB w).alloc _ | (with_reducible apply Chg.alloc) | (with_reducible apply Chg.drewN) | (refine Chg.setCell ?_ _ (fun h => absurd h (Nat.lt_irrefl _)))), 1, by decide, rfl⟩
  · rw [results_cell_tmp2 rfl]
    go_simp
set_option maxRecDepth 100000 in
set_option maxHeartbeats 4000000 in
theorem stretch_short3 (A : Option Addr) (L c : Nat) (xs : List Int) (w : World) (hn : L = xs.length) (hnc : L ≤ c) (hx : Rb w A xs) (hb : Byt xs) (hl : L ≤ 1048576) (hk : rd xs 0 = 3) (h1 : 0 < L) (h2 : L < 11) :
    Calls Tryd.prog 8 #[.slice A L c] w (StrBad w) := by
  have HX := As.mk hx
  have HN := As.mk hn
  have HBY := As.mk hb
  clear hx hn hb
  obtain ⟨a0, rfl, _⟩ := HX.out.at_ 0 (by omega) (by have := HN.out; omega)
  have HCA : As (∀ w', Chg NoB w w' → ∀ i : Nat, i < L → w'.cell? (a0.add i) = some (.int .u8 (rd xs i))) := ⟨fun w' hc i hi => by
    obtain ⟨ad, e, hc⟩ := (HX.out.keep hc).at_ (i : Int) (by omega) (by have := HN.out; omega)
    injection e with e
    subst e
    simpa using hc⟩
  have hLz : ((L : Int) == 0) = false := by simp; omega
  have hLp : (0 : Int) < (L : Int) := by omega
  have hcA : ∀ o, (w.alloc o).cell? a0 = some (.int .u8 3) := fun o => by
    have := HCA.out (w.alloc o) ((Chg.refl _ _).alloc o) 0 (by omega)
    rw [show rd xs ((0 : Nat) : Int) = 3 from hk] at this
    simpa [Addr.add] using this
  have hlt : (L : Int) < 11 := by omega
  clear hk
  go_enter Tryd.func8, Tryd.ntmps8
  go_wp2_with fail
  refine bodyPost_ret (v := .tuple #[.agg #[.int .i64 0, .int .i64 0, .slice none 0 0, .int .u8 0, .int .u8 0, .int .u8 0, .int .u8 0], .int .i64 0, .int .i64 1]) ?_ rfl ⟨by repeat (first | exact Chg.refl _ _ | exact (Chg.refl NoB w).alloc _ | (with_reducible apply Chg.alloc) | (with_reducible apply Chg.drewN) | (refine Chg.setCell ?_ _ (fun h => absurd h (Nat.lt_irrefl _)))), 1, by decide, rfl⟩
  · rw [results_cell_tmp2 rfl]
    go_simp
set_option maxRecDepth 100000 in
set_option maxHeartbeats 4000000 in
theorem stretch_short4 (A : Option Addr) (L c : Nat) (xs : List Int) (w : World) (hn : L = xs.length) (hnc : L ≤ c) (hx : Rb w A xs) (hb : Byt xs) (hl : L ≤ 1048576) (hk : rd xs 0 = 4) (h1 : 0 < L) (h2 : L < 20) :
    Calls Tryd.prog 8 #[.slice A L c] w (StrBad w) := by
  have HX := As.mk hx
  have HN := As.mk hn
  have HBY := As.mk hb
  clear hx hn hb
  obtain ⟨a0, rfl, _⟩ := HX.out.at_ 0 (by omega) (by have := HN.out; omega)
  have HCA : As (∀ w', Chg NoB w w' → ∀ i : Nat, i < L → w'.cell? (a0.add i) = some (.int .u8 (rd xs i))) := ⟨fun w' hc i hi => by
    obtain ⟨ad, e, hc⟩ := (HX.out.keep hc).at_ (i : Int) (by omega) (by have := HN.out; omega)
    injection e with e
    subst e
    simpa using hc⟩
  have hLz : ((L : Int) == 0) = false := by simp; omega
  have hLp : (0 : Int) < (L : Int) := by omega
  have hcA : ∀ o, (w.alloc o).cell? a0 = some (.int .u8 4) := fun o => by
    have := HCA.out (w.alloc o) ((Chg.refl _ _).alloc o) 0 (by omega)
    rw [show rd xs ((0 : Nat) : Int) = 4 from hk] at this
    simpa [Addr.add] using this
  have hlt : (L : Int) < 20 := by omega
  clear hk
  go_enter Tryd.func8, Tryd.ntmps8
  go_wp2_with fail
  refine bodyPost_ret (v := .tuple #[.agg #[.int .i64 0, .int .i64 0, .slice none 0 0, .int .u8 0, .int .u8 0, .int .u8 0, .int .u8 0], .int .i64 0, .int .i64 1]) ?_ rfl ⟨by repeat (first | exact Chg.refl _ _ | exact (Chg.refl NoB w).alloc _ | (with_reducible apply Chg.alloc) | (with_reducible apply Chg.drewN) | (refine Chg.setCell ?_ _ (fun h => absurd h (Nat.lt_irrefl _)))), 1, by decide, rfl⟩
  · rw [results_cell_tmp2 rfl]
    go_simp
set_option maxRecDepth 100000 in
set_option maxHeartbeats 4000000 in
theorem stretch_short101 (A : Option Addr) (L c : Nat) (xs : List Int) (w : World) (hn : L = xs.length) (hnc : L ≤ c) (hx : Rb w A xs) (hb : Byt xs) (hl : L ≤ 1048576) (hk : rd xs 0 = 101) (h1 : 0 < L) (h2 : L < 6) :
    Calls Tryd.prog 8 #[.slice A L c] w (StrBad w) := by
  have HX := As.mk hx
  have HN := As.mk hn
  have HBY := As.mk hb
  clear hx hn hb
  obtain ⟨a0, rfl, _⟩ := HX.out.at_ 0 (by omega) (by have := HN.out; omega)
  have HCA : As (∀ w', Chg NoB w w' → ∀ i : Nat, i < L → w'.cell? (a0.add i) = some (.int .u8 (rd xs i))) := ⟨fun w' hc i hi => by
    obtain ⟨ad, e, hc⟩ := (HX.out.keep hc).at_ (i : Int) (by omega) (by have := HN.out; omega)
    injection e with e
    subst e
    simpa using hc⟩
  have hLz : ((L : Int) == 0) = false := by simp; omega
  have hLp : (0 : Int) < (L : Int) := by omega
  have hcA : ∀ o, (w.alloc o).cell? a0 = some (.int .u8 101) := fun o => by
    have := HCA.out (w.alloc o) ((Chg.refl _ _).alloc o) 0 (by omega)
    rw [show rd xs ((0 : Nat) : Int) = 101 from hk] at this
    simpa [Addr.add] using this
  have hlt : (L : Int) < 6 := by omega
  clear hk
  go_enter Tryd.func8, Tryd.ntmps8
  go_wp2_with fail
  refine bodyPost_ret (v := .tuple #[.agg #[.int .i64 0, .int .i64 0, .slice none 0 0, .int .u8 0, .int .u8 0, .int .u8 0, .int .u8 0], .int .i64 0, .int .i64 1]) ?_ rfl ⟨by repeat (first | exact Chg.refl _ _ | exact (Chg.refl NoB w).alloc _ | (with_reducible apply Chg.alloc) | (with_reducible apply Chg.drewN) | (refine Chg.setCell ?_ _ (fun h => absurd h (Nat.lt_irrefl _)))), 1, by decide, rfl⟩
  · rw [results_cell_tmp2 rfl]
    go_simp
set_option maxRecDepth 100000 in
set_option maxHeartbeats 4000000 in
theorem stretch_other (A : Option Addr) (L c : Nat) (xs : List Int) (w : World) (hn : L = xs.length) (hnc : L ≤ c) (hx : Rb w A xs) (hb : Byt xs) (hl : L ≤ 1048576) (h1 : 0 < L) (hk0 : rd xs 0 ≠ 0) (hk1 : rd xs 0 ≠ 1) (hk3 : rd xs 0 ≠ 3) (hk4 : rd xs 0 ≠ 4) (hk5 : rd xs 0 ≠ 101) :
    Calls Tryd.prog 8 #[.slice A L c] w (StrBad w) := by
  have HX := As.mk hx
  have HN := As.mk hn
  have HBY := As.mk hb
  clear hx hn hb
  obtain ⟨a0, rfl, _⟩ := HX.out.at_ 0 (by omega) (by have := HN.out; omega)
  have HCA : As (∀ w', Chg NoB w w' → ∀ i : Nat, i < L → w'.cell? (a0.add i) = some (.int .u8 (rd xs i))) := ⟨fun w' hc i hi => by
    obtain ⟨ad, e, hc⟩ := (HX.out.keep hc).at_ (i : Int) (by omega) (by have := HN.out; omega)
    injection e with e
    subst e
    simpa using hc⟩
  have hLz : ((L : Int) == 0) = false := by simp; omega
  have hLp : (0 : Int) < (L : Int) := by omega
  have hcA : ∀ o, (w.alloc o).cell? a0 = some (.int .u8 (rd xs 0)) := fun o => by
    have := HCA.out (w.alloc o) ((Chg.refl _ _).alloc o) 0 (by omega)
    simpa [Addr.add] using this
  have hr0 := (HBY.out.rd 0).1
  have hr1 := (HBY.out.rd 0).2
  generalize rd xs 0 = f at *
  have b0 : (f == 0) = false := by simpa using hk0
  have b1 : (f == 1) = false := by simpa using hk1
  have b3 : (f == 3) = false := by simpa using hk3
  have b4 : (f == 4) = false := by simpa using hk4
  have b5 : (f == 101) = false := by simpa using hk5
  clear hk0 hk1 hk3 hk4 hk5
  go_enter Tryd.func8, Tryd.ntmps8
  go_wp2_with fail
  refine bodyPost_ret (v := .tuple #[.agg #[.int .i64 0, .int .i64 0, .slice none 0 0, .int .u8 0, .int .u8 0, .int .u8 0, .int .u8 0], .int .i64 0, .int .i64 2]) ?_ rfl ⟨by repeat (first | exact Chg.refl _ _ | exact (Chg.refl NoB w).alloc _ | (with_reducible apply Chg.alloc) | (with_reducible apply Chg.drewN) | (refine Chg.setCell ?_ _ (fun h => absurd h (Nat.lt_irrefl _)))), 2, by decide, rfl⟩
  · rw [results_cell_tmp2 rfl]
    go_simp
set_option maxRecDepth 100000 in
set_option maxHeartbeats 4000000 in
theorem stretch_0 (A : Option Addr) (L c : Nat) (xs : List Int) (w : World) (hn : L = xs.length) (hnc : L ≤ c) (hx : Rb w A xs) (hb : Byt xs) (hl : L ≤ 1048576) (hk : rd xs 0 = 0) (h2 : 2 ≤ L) :
    Calls Tryd.prog 8 #[.slice A L c] w (StrOf w 0 (rd xs 1) [] 0 0 0 0 2) := by
  have HX := As.mk hx
  have HN := As.mk hn
  have HBY := As.mk hb
  clear hx hn hb
  obtain ⟨a0, rfl, _⟩ := HX.out.at_ 0 (by omega) (by have := HN.out; omega)
  have HCA : As (∀ w', Chg NoB w w' → ∀ i : Nat, i < L → w'.cell? (a0.add i) = some (.int .u8 (rd xs i))) := ⟨fun w' hc i hi => by
    obtain ⟨ad, e, hc⟩ := (HX.out.keep hc).at_ (i : Int) (by omega) (by have := HN.out; omega)
    injection e with e
    subst e
    simpa using hc⟩
  have hLz : ((L : Int) == 0) = false := by simp; omega
  have hLp : (0 : Int) < (L : Int) := by omega
  have hcA : ∀ o, (w.alloc o).cell? a0 = some (.int .u8 0) := fun o => by
    have := HCA.out (w.alloc o) ((Chg.refl _ _).alloc o) 0 (by omega)
    rw [show rd xs ((0 : Nat) : Int) = 0 from hk] at this
    simpa [Addr.add] using this
  have h2L : ¬ (L : Int) < 2 := by omega
  have hl1 : (1 : Int) < (L : Int) := by omega
  have hb10 := (HBY.out.rd 1).1
  have hb11 := (HBY.out.rd 1).2
  clear hk
  go_enter Tryd.func8, Tryd.ntmps8
  go_upto_region 29 with fail
  obtain ⟨w1, hw1⟩ : ∃ w1, w1 = w.alloc (.cells #[.int .i64 0, .int .i64 0, .slice none 0 0, .int .u8 0, .int .u8 0, .int .u8 0, .int .u8 0] 32) := ⟨_, rfl⟩
  have C1 : As (Chg NoB w w1) := ⟨by rw [hw1]; exact (Chg.refl NoB w).alloc _⟩
  have bg : Blk w1 w.heap.size 32 [.int .i64 0, .int .i64 0, .slice none 0 0, .int .u8 0, .int .u8 0, .int .u8 0, .int .u8 0] := by rw [hw1]; exact Blk.new w _ [.int .i64 0, .int .i64 0, .slice none 0 0, .int .u8 0, .int .u8 0, .int .u8 0, .int .u8 0]
  rw [← hw1]
  have BG := As.mk bg
  have HZ1 : As (w.heap.size + 1 ≤ w1.heap.size) := ⟨bg.lt⟩
  have x0 := bg.cell 0
  have x1 := bg.cell 1
  have x2 := bg.cell 2
  have x3 := bg.cell 3
  have x4 := bg.cell 4
  have x5 := bg.cell 5
  have x6 := bg.cell 6
  have xf0 := bg.frozen 0
  have xf1 := bg.frozen 1
  have xf2 := bg.frozen 2
  have xf3 := bg.frozen 3
  have xf4 := bg.frozen 4
  have xf5 := bg.frozen 5
  have xf6 := bg.frozen 6
  simp only [List.getElem?_cons_zero, List.getElem?_cons_succ] at x0 x1 x2 x3 x4 x5 x6
  clear hw1 bg hcA
  have hq1 := HCA.out w1 C1.out 1 (by omega)
  simp [Addr.add] at hq1
  generalize rd xs 1 = f1 at *
  go_wp2_with fail
  have hfin := Chg.setCell (Chg.setCell (Chg.setCell (Chg.setCell (Chg.setCell (Chg.setCell (Chg.setCell (Chg.setCell (Chg.refl (fun b => b = w.heap.size) w1) (p := ⟨w.heap.size, 1, none⟩) (.int .i64 f1) (fun _ => rfl)) (p := ⟨w.heap.size, 0, none⟩) (.int .i64 0) (fun _ => rfl)) (p := ⟨w.heap.size, 1, none⟩) (.int .i64 f1) (fun _ => rfl)) (p := ⟨w.heap.size, 2, none⟩) (.slice none 0 0) (fun _ => rfl)) (p := ⟨w.heap.size, 3, none⟩) (.int .u8 0) (fun _ => rfl)) (p := ⟨w.heap.size, 4, none⟩) (.int .u8 0) (fun _ => rfl)) (p := ⟨w.heap.size, 5, none⟩) (.int .u8 0) (fun _ => rfl)) (p := ⟨w.heap.size, 6, none⟩) (.int .u8 0) (fun _ => rfl)
  have bf : Blk _ w.heap.size 32 [.int .i64 0, .int .i64 f1, .slice none 0 0, .int .u8 0, .int .u8 0, .int .u8 0, .int .u8 0] := ((((((((BG.out).set_ 1 (.int .i64 f1)).set_ 0 (.int .i64 0)).set_ 1 (.int .i64 f1)).set_ 2 (.slice none 0 0)).set_ 3 (.int .u8 0)).set_ 4 (.int .u8 0)).set_ 5 (.int .u8 0)).set_ 6 (.int .u8 0)
  generalize ((((((((w1).setCell ⟨w.heap.size, 1, none⟩ (.int .i64 f1)).setCell ⟨w.heap.size, 0, none⟩ (.int .i64 0)).setCell ⟨w.heap.size, 1, none⟩ (.int .i64 f1)).setCell ⟨w.heap.size, 2, none⟩ (.slice none 0 0)).setCell ⟨w.heap.size, 3, none⟩ (.int .u8 0)).setCell ⟨w.heap.size, 4, none⟩ (.int .u8 0)).setCell ⟨w.heap.size, 5, none⟩ (.int .u8 0)).setCell ⟨w.heap.size, 6, none⟩ (.int .u8 0) = wf at *
  have t0 := bf.cell 0
  have t1 := bf.cell 1
  have t2 := bf.cell 2
  have t3 := bf.cell 3
  have t4 := bf.cell 4
  have t5 := bf.cell 5
  have t6 := bf.cell 6
  have tf0 := bf.frozen 0
  have tf1 := bf.frozen 1
  have tf2 := bf.frozen 2
  have tf3 := bf.frozen 3
  have tf4 := bf.frozen 4
  have tf5 := bf.frozen 5
  have tf6 := bf.frozen 6
  simp only [List.getElem?_cons_zero, List.getElem?_cons_succ] at t0 t1 t2 t3 t4 t5 t6
  clear bf
  refine bodyPost_ret (v := .tuple #[.agg #[.int .i64 0, .int .i64 f1, .slice none 0 0, .int .u8 0, .int .u8 0, .int .u8 0, .int .u8 0], .int .i64 2, .int .i64 0]) ?_ rfl ⟨(C1.out).trans (S' := fun b => b = w.heap.size) hfin (fun i hi e => by omega), _, _, _, ?_, rfl, ?_⟩
  · rw [results_cell_tmp2 rfl]
    go_simp
  · rfl
  · exact Rk.none_
set_option maxRecDepth 100000 in
set_option maxHeartbeats 4000000 in
theorem stretch_1 (A : Option Addr) (L c : Nat) (xs : List Int) (w : World) (hn : L = xs.length) (hnc : L ≤ c) (hx : Rb w A xs) (hb : Byt xs) (hl : L ≤ 1048576) (hk : rd xs 0 = 1) (h2 : 10 ≤ L) :
    Calls Tryd.prog 8 #[.slice A L c] w (StrOf w 1 (rd xs 1) ((xs.drop 2).take 8) 0 0 0 0 10) := by
  have HX := As.mk hx
  have HN := As.mk hn
  have HBY := As.mk hb
  clear hx hn hb
  obtain ⟨a0, rfl, _⟩ := HX.out.at_ 0 (by omega) (by have := HN.out; omega)
  have HCA : As (∀ w', Chg NoB w w' → ∀ i : Nat, i < L → w'.cell? (a0.add i) = some (.int .u8 (rd xs i))) := ⟨fun w' hc i hi => by
    obtain ⟨ad, e, hc⟩ := (HX.out.keep hc).at_ (i : Int) (by omega) (by have := HN.out; omega)
    injection e with e
    subst e
    simpa using hc⟩
  have hLz : ((L : Int) == 0) = false := by simp; omega
  have hLp : (0 : Int) < (L : Int) := by omega
  have hcA : ∀ o, (w.alloc o).cell? a0 = some (.int .u8 1) := fun o => by
    have := HCA.out (w.alloc o) ((Chg.refl _ _).alloc o) 0 (by omega)
    rw [show rd xs ((0 : Nat) : Int) = 1 from hk] at this
    simpa [Addr.add] using this
  have h2L : ¬ (L : Int) < 10 := by omega
  have hl1 : (1 : Int) < (L : Int) := by omega
  have hl10 : (10 : Int) ≤ (L : Int) := by omega
  have hb10 := (HBY.out.rd 1).1
  have hb11 := (HBY.out.rd 1).2
  have hb100 := (HBY.out.rd 10).1
  have hb101 := (HBY.out.rd 10).2
  clear hk
  go_enter Tryd.func8, Tryd.ntmps8
  go_upto_region 28 with fail
  obtain ⟨w1, hw1⟩ : ∃ w1, w1 = w.alloc (.cells #[.int .i64 1, .int .i64 0, .slice none 0 0, .int .u8 0, .int .u8 0, .int .u8 0, .int .u8 0] 32) := ⟨_, rfl⟩
  have C1 : As (Chg NoB w w1) := ⟨by rw [hw1]; exact (Chg.refl NoB w).alloc _⟩
  have bg : Blk w1 w.heap.size 32 [.int .i64 1, .int .i64 0, .slice none 0 0, .int .u8 0, .int .u8 0, .int .u8 0, .int .u8 0] := by rw [hw1]; exact Blk.new w _ [.int .i64 1, .int .i64 0, .slice none 0 0, .int .u8 0, .int .u8 0, .int .u8 0, .int .u8 0]
  rw [← hw1]
  have BG := As.mk bg
  have HZ1 : As (w.heap.size + 1 ≤ w1.heap.size) := ⟨bg.lt⟩
  have x0 := bg.cell 0
  have x1 := bg.cell 1
  have x2 := bg.cell 2
  have x3 := bg.cell 3
  have x4 := bg.cell 4
  have x5 := bg.cell 5
  have x6 := bg.cell 6
  have xf0 := bg.frozen 0
  have xf1 := bg.frozen 1
  have xf2 := bg.frozen 2
  have xf3 := bg.frozen 3
  have xf4 := bg.frozen 4
  have xf5 := bg.frozen 5
  have xf6 := bg.frozen 6
  simp only [List.getElem?_cons_zero, List.getElem?_cons_succ] at x0 x1 x2 x3 x4 x5 x6
  clear hw1 bg hcA
  obtain ⟨A2, hcut, _, hA2⟩ := cut_mid (P := Tryd.prog) 22 5 Tryd.underlying22 size8 (some a0) L c 2 10 .i64 .i64 8 (c - 2) (by omega) (by omega) (by omega) (by omega)
  have HA : As (Rb w1 A2 ((xs.drop 2).take 8)) := ⟨hA2 w1 .u8 xs (by have := HN.out; omega) (by have := HN.out; omega) (HX.out.keep C1.out)⟩
  have HL : As (8 = ((xs.drop 2).take 8).length) := ⟨by rw [List.length_take, List.length_drop]; have := HN.out; omega⟩
  have HLM : As (((xs.drop 2).take 8).length ≤ 8) := ⟨by rw [List.length_take]; omega⟩
  clear hA2
  have HQ : As (∀ w', Chg NoB w w' → w'.cell? ⟨a0.block, a0.off + 1, none⟩ = some (.int .u8 (rd xs 1))) := ⟨fun w' h => by
    have := HCA.out w' h 1 (by omega)
    simpa [Addr.add] using this⟩
  have hab : a0.block ≠ w.heap.size := by
    obtain ⟨ad, e, h, _⟩ := HX.out.2 (by have := HN.out; omega)
    injection e with e
    subst e
    omega
  clear HCA
  generalize rd xs 1 = f1 at *
  generalize rd xs 10 = f10 at *
  go_wp2_with (at_builtin; refine wpList_append_e rfl _ _ 22 rfl 5 .u8 1 Tryd.underlying22 info8 (by decide) _ (w.heap.size + 1) ((xs.drop 2).take 8) A2 8 (c - 2) rfl rfl HL.out (HA.out.keep ?r1) ?r2 ?r3 ?_
               (case r1 => exact (by repeat (first | exact Chg.refl _ _ | (with_reducible apply Chg.drew) | (with_reducible apply Chg.alloc))))
               (case r2 => exact Nat.le_trans HZ1.out (Chg.size (S := NoB) (by repeat (first | exact Chg.refl _ _ | (with_reducible apply Chg.drew) | (with_reducible apply Chg.alloc)))))
               (case r3 => (have := HLM.out; omega))
               intro v2 w2 ho2 hc2
               obtain ⟨A3, c3, hv2, _, hr3⟩ := ow_form ho2
               rw [← HL.out] at hv2
               subst hv2
               have HC2 : As (Chg NoB w1 w2) := ⟨Chg.trans (by repeat (first | exact Chg.refl _ _ | (with_reducible apply Chg.drew) | (with_reducible apply Chg.alloc))) hc2 (fun _ _ e => e)⟩
               have HR3 := As.mk (Rf.of_ow ho2 (Nat.le_refl _))
               have b2 := BG.out.chg HC2.out (fun e => e)
               have B2 := As.mk b2
               have y0 := b2.cell 0
               have y1 := b2.cell 1
               have y2 := b2.cell 2
               have y3 := b2.cell 3
               have y4 := b2.cell 4
               have y5 := b2.cell 5
               have y6 := b2.cell 6
               have yf0 := b2.frozen 0
               have yf1 := b2.frozen 1
               have yf2 := b2.frozen 2
               have yf3 := b2.frozen 3
               have yf4 := b2.frozen 4
               have yf5 := b2.frozen 5
               have yf6 := b2.frozen 6
               simp only [List.getElem?_cons_zero, List.getElem?_cons_succ] at y0 y1 y2 y3 y4 y5 y6
               have hq1 := HQ.out _ (C1.out.trans HC2.out (fun _ _ e => e))
               clear x0 x1 x2 x3 x4 x5 x6 xf0 xf1 xf2 xf3 xf4 xf5 xf6 ho2 hc2 hr3 b2)
  have hfin := Chg.setCell (Chg.setCell (Chg.setCell (Chg.setCell (Chg.setCell (Chg.setCell (Chg.setCell (Chg.setCell (Chg.setCell (Chg.refl (fun b => b = w.heap.size) w2) (p := ⟨w.heap.size, 2, none⟩) (.slice A3 8 c3) (fun _ => rfl)) (p := ⟨w.heap.size, 1, none⟩) (.int .i64 f1) (fun _ => rfl)) (p := ⟨w.heap.size, 0, none⟩) (.int .i64 1) (fun _ => rfl)) (p := ⟨w.heap.size, 1, none⟩) (.int .i64 f1) (fun _ => rfl)) (p := ⟨w.heap.size, 2, none⟩) (.slice A3 8 c3) (fun _ => rfl)) (p := ⟨w.heap.size, 3, none⟩) (.int .u8 0) (fun _ => rfl)) (p := ⟨w.heap.size, 4, none⟩) (.int .u8 0) (fun _ => rfl)) (p := ⟨w.heap.size, 5, none⟩) (.int .u8 0) (fun _ => rfl)) (p := ⟨w.heap.size, 6, none⟩) (.int .u8 0) (fun _ => rfl)
  have bf : Blk _ w.heap.size 32 [.int .i64 1, .int .i64 f1, .slice A3 8 c3, .int .u8 0, .int .u8 0, .int .u8 0, .int .u8 0] := (((((((((B2.out).set_ 2 (.slice A3 8 c3)).set_ 1 (.int .i64 f1)).set_ 0 (.int .i64 1)).set_ 1 (.int .i64 f1)).set_ 2 (.slice A3 8 c3)).set_ 3 (.int .u8 0)).set_ 4 (.int .u8 0)).set_ 5 (.int .u8 0)).set_ 6 (.int .u8 0)
  generalize (((((((((w2).setCell ⟨w.heap.size, 2, none⟩ (.slice A3 8 c3)).setCell ⟨w.heap.size, 1, none⟩ (.int .i64 f1)).setCell ⟨w.heap.size, 0, none⟩ (.int .i64 1)).setCell ⟨w.heap.size, 1, none⟩ (.int .i64 f1)).setCell ⟨w.heap.size, 2, none⟩ (.slice A3 8 c3)).setCell ⟨w.heap.size, 3, none⟩ (.int .u8 0)).setCell ⟨w.heap.size, 4, none⟩ (.int .u8 0)).setCell ⟨w.heap.size, 5, none⟩ (.int .u8 0)).setCell ⟨w.heap.size, 6, none⟩ (.int .u8 0) = wf at *
  have t0 := bf.cell 0
  have t1 := bf.cell 1
  have t2 := bf.cell 2
  have t3 := bf.cell 3
  have t4 := bf.cell 4
  have t5 := bf.cell 5
  have t6 := bf.cell 6
  have tf0 := bf.frozen 0
  have tf1 := bf.frozen 1
  have tf2 := bf.frozen 2
  have tf3 := bf.frozen 3
  have tf4 := bf.frozen 4
  have tf5 := bf.frozen 5
  have tf6 := bf.frozen 6
  simp only [List.getElem?_cons_zero, List.getElem?_cons_succ] at t0 t1 t2 t3 t4 t5 t6
  clear bf
  refine bodyPost_ret (v := .tuple #[.agg #[.int .i64 1, .int .i64 f1, .slice A3 8 c3, .int .u8 0, .int .u8 0, .int .u8 0, .int .u8 0], .int .i64 10, .int .i64 0]) ?_ rfl ⟨(C1.out.trans HC2.out (fun _ _ e => e)).trans (S' := fun b => b = w.heap.size) hfin (fun i hi e => by omega), _, _, _, ?_, rfl, ?_⟩
  · rw [results_cell_tmp2 rfl]
    go_simp
  · exact HL.out
  · exact (HR3.out.chg (S := fun b => b = w.heap.size) hfin (fun b _ hb e => by omega)).1
set_option maxRecDepth 100000 in
set_option maxHeartbeats 4000000 in
theorem stretch_3 (A : Option Addr) (L c : Nat) (xs : List Int) (w : World) (hn : L = xs.length) (hnc : L ≤ c) (hx : Rb w A xs) (hb : Byt xs) (hl : L ≤ 1048576) (hk : rd xs 0 = 3) (h2 : 11 ≤ L) :
    Calls Tryd.prog 8 #[.slice A L c] w (StrOf w 3 (rd xs 1) ((xs.drop 2).take 8) (rd xs 10) 0 0 0 11) := by
  have HX := As.mk hx
  have HN := As.mk hn
  have HBY := As.mk hb
  clear hx hn hb
  obtain ⟨a0, rfl, _⟩ := HX.out.at_ 0 (by omega) (by have := HN.out; omega)
  have HCA : As (∀ w', Chg NoB w w' → ∀ i : Nat, i < L → w'.cell? (a0.add i) = some (.int .u8 (rd xs i))) := ⟨fun w' hc i hi => by
    obtain ⟨ad, e, hc⟩ := (HX.out.keep hc).at_ (i : Int) (by omega) (by have := HN.out; omega)
    injection e with e
    subst e
    simpa using hc⟩
  have hLz : ((L : Int) == 0) = false := by simp; omega
  have hLp : (0 : Int) < (L : Int) := by omega
  have hcA : ∀ o, (w.alloc o).cell? a0 = some (.int .u8 3) := fun o => by
    have := HCA.out (w.alloc o) ((Chg.refl _ _).alloc o) 0 (by omega)
    rw [show rd xs ((0 : Nat) : Int) = 3 from hk] at this
    simpa [Addr.add] using this
  have h2L : ¬ (L : Int) < 11 := by omega
  have hl1 : (1 : Int) < (L : Int) := by omega
  have hl10 : (10 : Int) ≤ (L : Int) := by omega
  have hb10 := (HBY.out.rd 1).1
  have hb11 := (HBY.out.rd 1).2
  have hb100 := (HBY.out.rd 10).1
  have hb101 := (HBY.out.rd 10).2
  clear hk
  go_enter Tryd.func8, Tryd.ntmps8
  go_upto_region 28 with fail
  obtain ⟨w1, hw1⟩ : ∃ w1, w1 = w.alloc (.cells #[.int .i64 3, .int .i64 0, .slice none 0 0, .int .u8 0, .int .u8 0, .int .u8 0, .int .u8 0] 32) := ⟨_, rfl⟩
  have C1 : As (Chg NoB w w1) := ⟨by rw [hw1]; exact (Chg.refl NoB w).alloc _⟩
  have bg : Blk w1 w.heap.size 32 [.int .i64 3, .int .i64 0, .slice none 0 0, .int .u8 0, .int .u8 0, .int .u8 0, .int .u8 0] := by rw [hw1]; exact Blk.new w _ [.int .i64 3, .int .i64 0, .slice none 0 0, .int .u8 0, .int .u8 0, .int .u8 0, .int .u8 0]
  rw [← hw1]
  have BG := As.mk bg
  have HZ1 : As (w.heap.size + 1 ≤ w1.heap.size) := ⟨bg.lt⟩
  have x0 := bg.cell 0
  have x1 := bg.cell 1
  have x2 := bg.cell 2
  have x3 := bg.cell 3
  have x4 := bg.cell 4
  have x5 := bg.cell 5
  have x6 := bg.cell 6
  have xf0 := bg.frozen 0
  have xf1 := bg.frozen 1
  have xf2 := bg.frozen 2
  have xf3 := bg.frozen 3
  have xf4 := bg.frozen 4
  have xf5 := bg.frozen 5
  have xf6 := bg.frozen 6
  simp only [List.getElem?_cons_zero, List.getElem?_cons_succ] at x0 x1 x2 x3 x4 x5 x6
  clear hw1 bg hcA
  obtain ⟨A2, hcut, _, hA2⟩ := cut_mid (P := Tryd.prog) 22 5 Tryd.underlying22 size8 (some a0) L c 2 10 .i64 .i64 8 (c - 2) (by omega) (by omega) (by omega) (by omega)
  have HA : As (Rb w1 A2 ((xs.drop 2).take 8)) := ⟨hA2 w1 .u8 xs (by have := HN.out; omega) (by have := HN.out; omega) (HX.out.keep C1.out)⟩
  have HL : As (8 = ((xs.drop 2).take 8).length) := ⟨by rw [List.length_take, List.length_drop]; have := HN.out; omega⟩
  have HLM : As (((xs.drop 2).take 8).length ≤ 8) := ⟨by rw [List.length_take]; omega⟩
  clear hA2
  have HQ : As (∀ w', Chg NoB w w' → w'.cell? ⟨a0.block, a0.off + 1, none⟩ = some (.int .u8 (rd xs 1))) := ⟨fun w' h => by
    have := HCA.out w' h 1 (by omega)
    simpa [Addr.add] using this⟩
  have HQ10 : As (∀ w', Chg NoB w w' → w'.cell? ⟨a0.block, a0.off + 10, none⟩ = some (.int .u8 (rd xs 10))) := ⟨fun w' h => by
    have := HCA.out w' h 10 (by omega)
    simpa [Addr.add] using this⟩
  have hl101 : (10 : Int) < (L : Int) := by omega
  have hab : a0.block ≠ w.heap.size := by
    obtain ⟨ad, e, h, _⟩ := HX.out.2 (by have := HN.out; omega)
    injection e with e
    subst e
    omega
  clear HCA
  generalize rd xs 1 = f1 at *
  generalize rd xs 10 = f10 at *
  go_wp2_with (at_builtin; refine wpList_append_e rfl _ _ 22 rfl 5 .u8 1 Tryd.underlying22 info8 (by decide) _ (w.heap.size + 1) ((xs.drop 2).take 8) A2 8 (c - 2) rfl rfl HL.out (HA.out.keep ?r1) ?r2 ?r3 ?_
               (case r1 => exact (by repeat (first | exact Chg.refl _ _ | (with_reducible apply Chg.drew) | (with_reducible apply Chg.alloc))))
               (case r2 => exact Nat.le_trans HZ1.out (Chg.size (S := NoB) (by repeat (first | exact Chg.refl _ _ | (with_reducible apply Chg.drew) | (with_reducible apply Chg.alloc)))))
               (case r3 => (have := HLM.out; omega))
               intro v2 w2 ho2 hc2
               obtain ⟨A3, c3, hv2, _, hr3⟩ := ow_form ho2
               rw [← HL.out] at hv2
               subst hv2
               have HC2 : As (Chg NoB w1 w2) := ⟨Chg.trans (by repeat (first | exact Chg.refl _ _ | (with_reducible apply Chg.drew) | (with_reducible apply Chg.alloc))) hc2 (fun _ _ e => e)⟩
               have HR3 := As.mk (Rf.of_ow ho2 (Nat.le_refl _))
               have b2 := BG.out.chg HC2.out (fun e => e)
               have B2 := As.mk b2
               have y0 := b2.cell 0
               have y1 := b2.cell 1
               have y2 := b2.cell 2
               have y3 := b2.cell 3
               have y4 := b2.cell 4
               have y5 := b2.cell 5
               have y6 := b2.cell 6
               have yf0 := b2.frozen 0
               have yf1 := b2.frozen 1
               have yf2 := b2.frozen 2
               have yf3 := b2.frozen 3
               have yf4 := b2.frozen 4
               have yf5 := b2.frozen 5
               have yf6 := b2.frozen 6
               simp only [List.getElem?_cons_zero, List.getElem?_cons_succ] at y0 y1 y2 y3 y4 y5 y6
               have hq1 := HQ.out _ (C1.out.trans HC2.out (fun _ _ e => e))
               have hq10 := HQ10.out _ (C1.out.trans HC2.out (fun _ _ e => e))
               clear x0 x1 x2 x3 x4 x5 x6 xf0 xf1 xf2 xf3 xf4 xf5 xf6 ho2 hc2 hr3 b2)
  have hfin := Chg.setCell (Chg.setCell (Chg.setCell (Chg.setCell (Chg.setCell (Chg.setCell (Chg.setCell (Chg.setCell (Chg.setCell (Chg.setCell (Chg.refl (fun b => b = w.heap.size) w2) (p := ⟨w.heap.size, 2, none⟩) (.slice A3 8 c3) (fun _ => rfl)) (p := ⟨w.heap.size, 1, none⟩) (.int .i64 f1) (fun _ => rfl)) (p := ⟨w.heap.size, 3, none⟩) (.int .u8 f10) (fun _ => rfl)) (p := ⟨w.heap.size, 0, none⟩) (.int .i64 3) (fun _ => rfl)) (p := ⟨w.heap.size, 1, none⟩) (.int .i64 f1) (fun _ => rfl)) (p := ⟨w.heap.size, 2, none⟩) (.slice A3 8 c3) (fun _ => rfl)) (p := ⟨w.heap.size, 3, none⟩) (.int .u8 f10) (fun _ => rfl)) (p := ⟨w.heap.size, 4, none⟩) (.int .u8 0) (fun _ => rfl)) (p := ⟨w.heap.size, 5, none⟩) (.int .u8 0) (fun _ => rfl)) (p := ⟨w.heap.size, 6, none⟩) (.int .u8 0) (fun _ => rfl)
  have bf : Blk _ w.heap.size 32 [.int .i64 3, .int .i64 f1, .slice A3 8 c3, .int .u8 f10, .int .u8 0, .int .u8 0, .int .u8 0] := ((((((((((B2.out).set_ 2 (.slice A3 8 c3)).set_ 1 (.int .i64 f1)).set_ 3 (.int .u8 f10)).set_ 0 (.int .i64 3)).set_ 1 (.int .i64 f1)).set_ 2 (.slice A3 8 c3)).set_ 3 (.int .u8 f10)).set_ 4 (.int .u8 0)).set_ 5 (.int .u8 0)).set_ 6 (.int .u8 0)
  generalize ((((((((((w2).setCell ⟨w.heap.size, 2, none⟩ (.slice A3 8 c3)).setCell ⟨w.heap.size, 1, none⟩ (.int .i64 f1)).setCell ⟨w.heap.size, 3, none⟩ (.int .u8 f10)).setCell ⟨w.heap.size, 0, none⟩ (.int .i64 3)).setCell ⟨w.heap.size, 1, none⟩ (.int .i64 f1)).setCell ⟨w.heap.size, 2, none⟩ (.slice A3 8 c3)).setCell ⟨w.heap.size, 3, none⟩ (.int .u8 f10)).setCell ⟨w.heap.size, 4, none⟩ (.int .u8 0)).setCell ⟨w.heap.size, 5, none⟩ (.int .u8 0)).setCell ⟨w.heap.size, 6, none⟩ (.int .u8 0) = wf at *
  have t0 := bf.cell 0
  have t1 := bf.cell 1
  have t2 := bf.cell 2
  have t3 := bf.cell 3
  have t4 := bf.cell 4
  have t5 := bf.cell 5
  have t6 := bf.cell 6
  have tf0 := bf.frozen 0
  have tf1 := bf.frozen 1
  have tf2 := bf.frozen 2
  have tf3 := bf.frozen 3
  have tf4 := bf.frozen 4
  have tf5 := bf.frozen 5
  have tf6 := bf.frozen 6
  simp only [List.getElem?_cons_zero, List.getElem?_cons_succ] at t0 t1 t2 t3 t4 t5 t6
  clear bf
  refine bodyPost_ret (v := .tuple #[.agg #[.int .i64 3, .int .i64 f1, .slice A3 8 c3, .int .u8 f10, .int .u8 0, .int .u8 0, .int .u8 0], .int .i64 11, .int .i64 0]) ?_ rfl ⟨(C1.out.trans HC2.out (fun _ _ e => e)).trans (S' := fun b => b = w.heap.size) hfin (fun i hi e => by omega), _, _, _, ?_, rfl, ?_⟩
  · rw [results_cell_tmp2 rfl]
    go_simp
  · exact HL.out
  · exact (HR3.out.chg (S := fun b => b = w.heap.size) hfin (fun b _ hb e => by omega)).1
set_option maxRecDepth 100000 in
set_option maxHeartbeats 4000000 in
theorem stretch_4 (A : Option Addr) (L c : Nat) (xs : List Int) (w : World) (hn : L = xs.length) (hnc : L ≤ c) (hx : Rb w A xs) (hb : Byt xs) (hl : L ≤ 1048576) (hk : rd xs 0 = 4) (h2 : 20 ≤ L) :
    Calls Tryd.prog 8 #[.slice A L c] w (StrOf w 4 0 ((xs.drop 1).take 16) 0 (rd xs 17) (rd xs 18) (rd xs 19) 20) := by
  have HX := As.mk hx
  have HN := As.mk hn
  have HBY := As.mk hb
  clear hx hn hb
  obtain ⟨a0, rfl, _⟩ := HX.out.at_ 0 (by omega) (by have := HN.out; omega)
  have HCA : As (∀ w', Chg NoB w w' → ∀ i : Nat, i < L → w'.cell? (a0.add i) = some (.int .u8 (rd xs i))) := ⟨fun w' hc i hi => by
    obtain ⟨ad, e, hc⟩ := (HX.out.keep hc).at_ (i : Int) (by omega) (by have := HN.out; omega)
    injection e with e
    subst e
    simpa using hc⟩
  have hLz : ((L : Int) == 0) = false := by simp; omega
  have hLp : (0 : Int) < (L : Int) := by omega
  have hcA : ∀ o, (w.alloc o).cell? a0 = some (.int .u8 4) := fun o => by
    have := HCA.out (w.alloc o) ((Chg.refl _ _).alloc o) 0 (by omega)
    rw [show rd xs ((0 : Nat) : Int) = 4 from hk] at this
    simpa [Addr.add] using this
  have h2L : ¬ (L : Int) < 20 := by omega
  have hl17 : (17 : Int) < (L : Int) := by omega
  have hl18 : (18 : Int) < (L : Int) := by omega
  have hl19 : (19 : Int) < (L : Int) := by omega
  clear hk
  go_enter Tryd.func8, Tryd.ntmps8
  go_upto_region 20 with fail
  obtain ⟨w1, hw1⟩ : ∃ w1, w1 = w.alloc (.cells #[.int .i64 4, .int .i64 0, .slice none 0 0, .int .u8 0, .int .u8 0, .int .u8 0, .int .u8 0] 32) := ⟨_, rfl⟩
  have C1 : As (Chg NoB w w1) := ⟨by rw [hw1]; exact (Chg.refl NoB w).alloc _⟩
  have bg : Blk w1 w.heap.size 32 [.int .i64 4, .int .i64 0, .slice none 0 0, .int .u8 0, .int .u8 0, .int .u8 0, .int .u8 0] := by rw [hw1]; exact Blk.new w _ [.int .i64 4, .int .i64 0, .slice none 0 0, .int .u8 0, .int .u8 0, .int .u8 0, .int .u8 0]
  rw [← hw1]
  have BG := As.mk bg
  have HZ1 : As (w.heap.size + 1 ≤ w1.heap.size) := ⟨bg.lt⟩
  have x0 := bg.cell 0
  have x1 := bg.cell 1
  have x2 := bg.cell 2
  have x3 := bg.cell 3
  have x4 := bg.cell 4
  have x5 := bg.cell 5
  have x6 := bg.cell 6
  have xf0 := bg.frozen 0
  have xf1 := bg.frozen 1
  have xf2 := bg.frozen 2
  have xf3 := bg.frozen 3
  have xf4 := bg.frozen 4
  have xf5 := bg.frozen 5
  have xf6 := bg.frozen 6
  simp only [List.getElem?_cons_zero, List.getElem?_cons_succ] at x0 x1 x2 x3 x4 x5 x6
  clear hw1 bg hcA
  obtain ⟨A2, hcut, _, hA2⟩ := cut_mid (P := Tryd.prog) 22 5 Tryd.underlying22 size8 (some a0) L c 1 17 .i64 .i64 16 (c - 1) (by omega) (by omega) (by omega) (by omega)
  have HA : As (Rb w1 A2 ((xs.drop 1).take 16)) := ⟨hA2 w1 .u8 xs (by have := HN.out; omega) (by have := HN.out; omega) (HX.out.keep C1.out)⟩
  have HL : As (16 = ((xs.drop 1).take 16).length) := ⟨by rw [List.length_take, List.length_drop]; have := HN.out; omega⟩
  have HLM : As (((xs.drop 1).take 16).length ≤ 16) := ⟨by rw [List.length_take]; omega⟩
  clear hA2
  have HQ17 : As (∀ w', Chg NoB w w' → w'.cell? ⟨a0.block, a0.off + 17, none⟩ = some (.int .u8 (rd xs 17))) := ⟨fun w' h => by
    have := HCA.out w' h 17 (by omega)
    simpa [Addr.add] using this⟩
  have HQ18 : As (∀ w', Chg NoB w w' → w'.cell? ⟨a0.block, a0.off + 18, none⟩ = some (.int .u8 (rd xs 18))) := ⟨fun w' h => by
    have := HCA.out w' h 18 (by omega)
    simpa [Addr.add] using this⟩
  have HQ19 : As (∀ w', Chg NoB w w' → w'.cell? ⟨a0.block, a0.off + 19, none⟩ = some (.int .u8 (rd xs 19))) := ⟨fun w' h => by
    have := HCA.out w' h 19 (by omega)
    simpa [Addr.add] using this⟩
  have hab : a0.block < w.heap.size := by
    obtain ⟨ad, e, h, _⟩ := HX.out.2 (by have := HN.out; omega)
    injection e with e
    subst e
    exact h
  clear HCA
  generalize rd xs 17 = f17 at *
  generalize rd xs 18 = f18 at *
  generalize rd xs 19 = f19 at *
  go_upto_region 21 with (at_builtin; refine wpList_append_e rfl _ _ 22 rfl 5 .u8 1 Tryd.underlying22 info8 (by decide) _ (w.heap.size + 1) ((xs.drop 1).take 16) A2 16 (c - 1) rfl rfl HL.out (HA.out.keep ?r1) ?r2 ?r3 ?_
                          (case r1 => exact (by repeat (first | exact Chg.refl _ _ | (with_reducible apply Chg.drew) | (with_reducible apply Chg.alloc))))
                          (case r2 => exact Nat.le_trans HZ1.out (Chg.size (S := NoB) (by repeat (first | exact Chg.refl _ _ | (with_reducible apply Chg.drew) | (with_reducible apply Chg.alloc)))))
                          (case r3 => (have := HLM.out; omega))
                          intro v2 w2 ho2 hc2
                          obtain ⟨A3, c3, hv2, _, hr3⟩ := ow_form ho2
                          rw [← HL.out] at hv2
                          subst hv2
                          have HC2 : As (Chg NoB w1 w2) := ⟨Chg.trans (by repeat (first | exact Chg.refl _ _ | (with_reducible apply Chg.drew) | (with_reducible apply Chg.alloc))) hc2 (fun _ _ e => e)⟩
                          have HR3 := As.mk (Rf.of_ow ho2 (Nat.le_refl _))
                          have b2 := BG.out.chg HC2.out (fun e => e)
                          have B2 := As.mk b2
                          have y0 := b2.cell 0
                          have y1 := b2.cell 1
                          have y2 := b2.cell 2
                          have y3 := b2.cell 3
                          have y4 := b2.cell 4
                          have y5 := b2.cell 5
                          have y6 := b2.cell 6
                          have yf0 := b2.frozen 0
                          have yf1 := b2.frozen 1
                          have yf2 := b2.frozen 2
                          have yf3 := b2.frozen 3
                          have yf4 := b2.frozen 4
                          have yf5 := b2.frozen 5
                          have yf6 := b2.frozen 6
                          simp only [List.getElem?_cons_zero, List.getElem?_cons_succ] at y0 y1 y2 y3 y4 y5 y6
                          clear x0 x1 x2 x3 x4 x5 x6 xf0 xf1 xf2 xf3 xf4 xf5 xf6 ho2 hc2 hr3 b2)
  obtain ⟨w3, hw3⟩ : ∃ w3, w3 = w2.setCell ⟨w.heap.size, 2, none⟩ (.slice A3 16 c3) := ⟨_, rfl⟩
  have C3 : As (Chg (fun b => b = w.heap.size) w2 w3) := ⟨by rw [hw3]; exact Chg.setCell (Chg.refl (fun b => b = w.heap.size) w2) (p := ⟨w.heap.size, 2, none⟩) _ (fun _ => rfl)⟩
  have b3 : Blk w3 w.heap.size 32 [.int .i64 4, .int .i64 0, .slice A3 16 c3, .int .u8 0, .int .u8 0, .int .u8 0, .int .u8 0] := by rw [hw3]; exact B2.out.set_ 2 (.slice A3 16 c3)
  have B3 := As.mk b3
  rw [← hw3]
  clear hw3 y0 y1 y2 y3 y4 y5 y6 yf0 yf1 yf2 yf3 yf4 yf5 yf6
  have u4 := b3.frozen 4
  have u5 := b3.frozen 5
  have u6 := b3.frozen 6
  have v4 := b3.cell 4
  have v5 := b3.cell 5
  have v6 := b3.cell 6
  simp only [List.getElem?_cons_zero, List.getElem?_cons_succ] at v4 v5 v6
  have HAB := As.mk hab
  have HW : As (w.heap.size ≤ w1.heap.size) := ⟨C1.out.size⟩
  have KQ : As (∀ w', Chg (fun b => b = w.heap.size) w3 w' → w'.cell? ⟨a0.block, a0.off + 17, none⟩ = some (.int .u8 f17) ∧ w'.cell? ⟨a0.block, a0.off + 18, none⟩ = some (.int .u8 f18) ∧ w'.cell? ⟨a0.block, a0.off + 19, none⟩ = some (.int .u8 f19)) := ⟨fun w' h => by
    have hc := (((C1.out.trans HC2.out (fun _ _ e => e)).trans (S' := fun b => b = w.heap.size) C3.out (fun i hi e => by omega))).trans (S' := fun b => b = w.heap.size) h (fun i hi e => by omega)
    exact ⟨HQ17.out _ hc, HQ18.out _ hc, HQ19.out _ hc⟩⟩
  have hq := KQ.out _ (Chg.refl _ _)
  have q17 := hq.1
  have q18 := hq.2.1
  have q19 := hq.2.2
  clear hq b3
  go_cut [3] (fun s3 wx => s3 = .int .i64 20 ∧ As (Chg (fun b => b = w.heap.size) w3 wx) ∧ As (Blk wx w.heap.size 32 [.int .i64 4, .int .i64 0, .slice A3 16 c3, .int .u8 0, .int .u8 f17, .int .u8 f18, .int .u8 f19]))
  case first =>
    go_region_held3 (fun w' => w'.cell? ⟨a0.block, a0.off + 17, none⟩ = some (.int .u8 f17) ∧ w'.cell? ⟨a0.block, a0.off + 18, none⟩ = some (.int .u8 f18) ∧ w'.cell? ⟨a0.block, a0.off + 19, none⟩ = some (.int .u8 f19)) (exact KQ.out _ (by repeat (first | exact Chg.refl _ _ | (with_reducible apply Chg.drew) | (with_reducible apply Chg.alloc) | (refine Chg.setCell ?_ _ (fun _ => rfl))))) (fail)
    all_goals
      go_wp2_with fail
      go_meet
      refine ⟨rfl, ⟨by repeat (first | exact Chg.refl _ _ | (with_reducible apply Chg.drew) | (with_reducible apply Chg.drewN) | (refine Chg.setCell ?_ _ (fun _ => rfl)))⟩, ⟨?_⟩⟩
      first
        | exact ((B3.out.set_ 4 (.int .u8 f17)).set_ 5 (.int .u8 f18)).set_ 6 (.int .u8 f19)
        | exact ((B3.out.set_ 4 (.int .u8 f17)).set_ 6 (.int .u8 f19)).set_ 5 (.int .u8 f18)
        | exact ((B3.out.set_ 5 (.int .u8 f18)).set_ 4 (.int .u8 f17)).set_ 6 (.int .u8 f19)
        | exact ((B3.out.set_ 5 (.int .u8 f18)).set_ 6 (.int .u8 f19)).set_ 4 (.int .u8 f17)
        | exact ((B3.out.set_ 6 (.int .u8 f19)).set_ 4 (.int .u8 f17)).set_ 5 (.int .u8 f18)
        | exact ((B3.out.set_ 6 (.int .u8 f19)).set_ 5 (.int .u8 f18)).set_ 4 (.int .u8 f17)
  case rest =>
    obtain ⟨rfl, C4, B4⟩ := hcut
    have b4 := B4.out
    have y0 := b4.cell 0
    have y1 := b4.cell 1
    have y2 := b4.cell 2
    have y3 := b4.cell 3
    have y4 := b4.cell 4
    have y5 := b4.cell 5
    have y6 := b4.cell 6
    have yf0 := b4.frozen 0
    have yf1 := b4.frozen 1
    have yf2 := b4.frozen 2
    have yf3 := b4.frozen 3
    have yf4 := b4.frozen 4
    have yf5 := b4.frozen 5
    have yf6 := b4.frozen 6
    simp only [List.getElem?_cons_zero, List.getElem?_cons_succ] at y0 y1 y2 y3 y4 y5 y6
    clear b4 v4 v5 v6 q17 q18 q19
    go_wp2_with fail
    have hfin := Chg.setCell (Chg.setCell (Chg.setCell (Chg.setCell (Chg.setCell (Chg.setCell (Chg.setCell (Chg.refl (fun b => b = w.heap.size) wc) (p := ⟨w.heap.size, 0, none⟩) (.int .i64 4) (fun _ => rfl)) (p := ⟨w.heap.size, 1, none⟩) (.int .i64 0) (fun _ => rfl)) (p := ⟨w.heap.size, 2, none⟩) (.slice A3 16 c3) (fun _ => rfl)) (p := ⟨w.heap.size, 3, none⟩) (.int .u8 0) (fun _ => rfl)) (p := ⟨w.heap.size, 4, none⟩) (.int .u8 f17) (fun _ => rfl)) (p := ⟨w.heap.size, 5, none⟩) (.int .u8 f18) (fun _ => rfl)) (p := ⟨w.heap.size, 6, none⟩) (.int .u8 f19) (fun _ => rfl)
    have bf : Blk _ w.heap.size 32 [.int .i64 4, .int .i64 0, .slice A3 16 c3, .int .u8 0, .int .u8 f17, .int .u8 f18, .int .u8 f19] := (((((((B4.out).set_ 0 (.int .i64 4)).set_ 1 (.int .i64 0)).set_ 2 (.slice A3 16 c3)).set_ 3 (.int .u8 0)).set_ 4 (.int .u8 f17)).set_ 5 (.int .u8 f18)).set_ 6 (.int .u8 f19)
    generalize (((((((wc).setCell ⟨w.heap.size, 0, none⟩ (.int .i64 4)).setCell ⟨w.heap.size, 1, none⟩ (.int .i64 0)).setCell ⟨w.heap.size, 2, none⟩ (.slice A3 16 c3)).setCell ⟨w.heap.size, 3, none⟩ (.int .u8 0)).setCell ⟨w.heap.size, 4, none⟩ (.int .u8 f17)).setCell ⟨w.heap.size, 5, none⟩ (.int .u8 f18)).setCell ⟨w.heap.size, 6, none⟩ (.int .u8 f19) = wf at *
    have t0 := bf.cell 0
    have t1 := bf.cell 1
    have t2 := bf.cell 2
    have t3 := bf.cell 3
    have t4 := bf.cell 4
    have t5 := bf.cell 5
    have t6 := bf.cell 6
    have tf0 := bf.frozen 0
    have tf1 := bf.frozen 1
    have tf2 := bf.frozen 2
    have tf3 := bf.frozen 3
    have tf4 := bf.frozen 4
    have tf5 := bf.frozen 5
    have tf6 := bf.frozen 6
    simp only [List.getElem?_cons_zero, List.getElem?_cons_succ] at t0 t1 t2 t3 t4 t5 t6
    clear bf
    refine bodyPost_ret (v := .tuple #[.agg #[.int .i64 4, .int .i64 0, .slice A3 16 c3, .int .u8 0, .int .u8 f17, .int .u8 f18, .int .u8 f19], .int .i64 20, .int .i64 0]) ?_ rfl ⟨((C1.out.trans HC2.out (fun _ _ e => e)).trans (S' := fun b => b = w.heap.size) (C3.out.trans C4.out (fun _ _ e => e)) (fun i hi e => by omega)).trans (S' := fun b => b = w.heap.size) hfin (fun i hi e => by omega), _, _, _, ?_, rfl, ?_⟩
    · rw [results_cell_tmp2 rfl]
      go_simp
    · simpa using HL.out
    · simpa using (HR3.out.chg (S := fun b => b = w.heap.size) ((C3.out.trans C4.out (fun _ _ e => e)).trans hfin (fun _ _ e => e)) (fun b _ hb e => by omega)).1
end Go.Proofs.YthambncffcphkaaDoor
