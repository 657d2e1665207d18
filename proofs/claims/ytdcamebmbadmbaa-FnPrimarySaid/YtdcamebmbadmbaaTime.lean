/- The contracts of time.Unix of whole seconds, and of a Time's own seconds. -/
import Derived.Test.YtdcamebmbadmbaaProg
import Derived.Test.YtdcamebmbadmbaaV2
set_option linter.unusedVariables false
set_option linter.unusedSimpArgs false
namespace Go.Proofs.Ytdcamebmbadmbaa
open Go.RowKit V
theorem results_cell_time {fn : Func} {p : Tmp} {ty : TypeId} (h : fn.results = #[.cell p ty]) (tmps : Array Value) (P : Program) (w : World) :
    (results fn tmps).run P w = ((asAddr (tmps.getD p undef)).run P w).andThen fun a w₁ => (loadVar ty a).run P w₁ := by
  simp only [results, h]
  simp [Sem.run_bind, Result.andThen]
/-- A time that is so many seconds behind the year 1970. -/
def tmCells (s : Int) : List Value := [.int .u64 0, .int .i64 (s + 62135596800), .pointer none]
set_option maxRecDepth 100000 in
set_option maxHeartbeats 1000000 in
theorem unixTime_any (s : Int) (w : World) (h0 : 0 ≤ s) (h1 : s ≤ 4294967296) :
    Calls Try.prog 17 #[.int .i64 s, .int .i32 0] w fun e w' => e = .returned (.agg (tmCells s).toArray) ∧ Chg NoB w w' := by
  have e1 : IntKind.i64.wrap (s + 62135596800) = s + 62135596800 := by rw [IntKind.wrap_i64]; omega
  go_enter Try.func17, Try.ntmps17
  go_wp2_with fail
  refine bodyPost_ret (v := .agg (tmCells s).toArray) ?_ rfl ⟨rfl, ?_⟩
  · rw [results_cell_time rfl]
    go_simp
    simp [tmCells]
  · repeat (first | exact Chg.refl _ _ | (with_reducible apply Chg.alloc) | (refine Chg.setCell ?_ _ (fun h => absurd h (Nat.lt_irrefl _))))
set_option maxRecDepth 100000 in
set_option maxHeartbeats 1000000 in
theorem unix_any (s : Int) (w : World) (h0 : 0 ≤ s) (h1 : s ≤ 4294967296) :
    Calls Try.prog 11 #[.int .i64 s, .int .i64 0] w fun e w' => e = .returned (.agg (tmCells s).toArray) ∧ Chg NoB w w' := by
  go_enter Try.func11, Try.ntmps11
  go_wp2_with fail
  refine (unixTime_any s _ h0 h1).mono ?_
  rintro e w1 ⟨rfl, hc1⟩
  have HC := As.mk (((Chg.refl NoB w).alloc _).trans hc1 (fun _ _ e => e))
  have hb := (Blk.new w 70 [.int .u64 0, .int .i64 0, .pointer none]).chg hc1 (fun e => e)
  have c0 := hb.cell 0
  have c1 := hb.cell 1
  have c2 := hb.cell 2
  have z0 := hb.frozen 0
  have z1 := hb.frozen 1
  have z2 := hb.frozen 2
  simp only [List.getElem?_cons_zero, List.getElem?_cons_succ] at c0 c1 c2
  clear hc1
  simp only [tmCells]
  go_wp2_with fail
  refine bodyPost_ret (v := .agg (tmCells s).toArray) ?_ rfl ⟨rfl, ?_⟩
  · rw [results_cell_time rfl]
    go_simp
    rfl
  · repeat (first | exact HC.out | (with_reducible apply Chg.alloc) | (refine Chg.setCell ?_ _ (fun h => absurd h (Nat.lt_irrefl _))))
set_option maxRecDepth 100000 in
set_option maxHeartbeats 1000000 in
theorem sec_any (g : Nat) (s : Int) (w : World) (hg : Blk w g 70 (tmCells s)) :
    Calls Try.prog 22 #[.pointer (some ⟨g, 0, none⟩)] w fun e w' => e = .returned (.int .i64 (s + 62135596800)) ∧ w' = w := by
  have c0 := hg.cell 0
  have c1 := hg.cell 1
  simp only [tmCells, List.getElem?_cons_zero, List.getElem?_cons_succ] at c0 c1
  go_enter Try.func22, Try.ntmps22
  go_wp2_with fail
  go_ret
  exact ⟨rfl, rfl⟩
set_option maxRecDepth 100000 in
set_option maxHeartbeats 1000000 in
theorem unixSec_any (g : Nat) (s : Int) (w : World) (h0 : 0 ≤ s) (h1 : s ≤ 4294967296) (hg : Blk w g 70 (tmCells s)) :
    Calls Try.prog 26 #[.pointer (some ⟨g, 0, none⟩)] w fun e w' => e = .returned (.int .i64 s) ∧ w' = w := by
  have e1 : IntKind.i64.wrap (s + 62135596800 + -62135596800) = s := by rw [IntKind.wrap_i64]; omega
  go_enter Try.func26, Try.ntmps26
  go_wp2_with fail
  refine (sec_any g s _ hg).mono ?_
  rintro e w1 ⟨rfl, rfl⟩
  go_wp2_with fail
  go_ret
  exact ⟨rfl, rfl⟩
set_option maxRecDepth 100000 in
set_option maxHeartbeats 1000000 in
theorem timeUnix_any (s : Int) (w : World) (h0 : 0 ≤ s) (h1 : s ≤ 4294967296) :
    Calls Try.prog 24 #[.agg (tmCells s).toArray] w fun e w' => e = .returned (.int .i64 s) ∧ Chg NoB w w' := by
  go_enter Try.func24, Try.ntmps24
  go_wp2_with fail
  refine (unixSec_any w.heap.size s _ h0 h1 (Blk.new w _ (tmCells s))).mono ?_
  rintro e w1 ⟨rfl, rfl⟩
  go_wp2_with fail
  go_ret
  exact ⟨rfl, (Chg.refl NoB w).alloc _⟩
end Go.Proofs.Ytdcamebmbadmbaa
