/- impl.first and impl.bare. -/
import Derived.Test.YtdcamebmbadmbaaPrimA
set_option linter.unusedVariables false
set_option linter.unusedSimpArgs false
namespace Go.Proofs.Ytdcamebmbadmbaa
open Go.RowKit V
set_option maxHeartbeats 400000 in
theorem first_none (A : Option Addr) (c : Nat) (w : World) : Calls Try.prog 13 #[.slice A 0 c] w fun e w' => e = .returned (.pointer none) ∧ w' = w := by
  go_enter Try.func13, Try.ntmps13
  go_wp2_with fail
  go_ret
  exact ⟨rfl, rfl⟩
set_option maxRecDepth 100000 in
set_option maxHeartbeats 1000000 in
theorem first_one (b : Nat) (k t p : Int) (w : World) (hb : Blk w b 41 (inCellsP k t p)) (h0 : 0 ≤ t) (h1 : t ≤ 4294967296) :
    Calls Try.prog 13 #[.slice (some ⟨b, 0, none⟩) 1 1] w fun e w' => ∃ g g2, e = .returned (.pointer (some ⟨g, 0, none⟩)) ∧ w.heap.size ≤ g ∧ w.heap.size ≤ g2 ∧ Blk w' g 95 (outCells k t (.pointer (some ⟨g2, 0, none⟩))) ∧ Blk w' g2 4 [.bool (p != 0)] ∧ Chg NoB w w' := by
  have HB := As.mk hb
  clear hb
  go_enter Try.func13, Try.ntmps13
  go_wp2_with ((with_reducible refine gate (N := 8) rfl ?_); refine wpList_load_row rfl 41 _ rfl b rfl 41 (inCellsP k t p).toArray (0, 0) _ HB.out Try.underlying41 rfl sizeSig ?_)
  refine (fields_prim k t p _ h0 h1).mono ?_
  rintro e w2 ⟨g, g2, rfl, h1, h2, h3, h4, h5⟩
  have HX := As.mk (And.intro h1 (And.intro h2 (And.intro h3 (And.intro h4 h5))))
  clear h1 h2 h3 h4 h5
  go_wp2_with fail
  go_ret
  exact ⟨g, g2, rfl, HX.out⟩
theorem unix_zero (w : World) : Calls Try.prog 11 #[.int .i64 0, .int .i64 0] w fun e w' => e = .returned (.agg #[.int .u64 0, .int .i64 62135596800, .pointer none]) ∧ Chg NoB w w' :=
  (unix_any 0 w (by omega) (by omega)).mono fun e w' h => ⟨h.1.trans (by simp [tmCells]), h.2⟩
set_option maxRecDepth 100000 in
set_option maxHeartbeats 1000000 in
theorem bare_zero (w : World) :
    Calls Try.prog 12 #[.agg #[.int .i64 0, .int .u64 0, .int .u8 0, .slice none 0 0, .slice none 0 0, .int .u64 0, .int .i64 0, .bool false]] w fun e w' => ∃ g, e = .returned (.pointer (some ⟨g, 0, none⟩)) ∧ Chg NoB w w' := by
  go_enter Try.func12, Try.ntmps12
  go_upto_region 1 with fail
  have HB := As.mk (Blk.new w 26 [.int .i64 0, .int .u64 0, .int .u8 0, .slice none 0 0, .slice none 0 0, .int .u64 0, .int .i64 0, .bool false])
  obtain ⟨b, hb⟩ : ∃ b, b = w.heap.size := ⟨_, rfl⟩
  simp only [← hb]
  rw [← hb] at HB
  refine wp_world (fun w' => Blk w' b 26 [.int .i64 0, .int .u64 0, .int .u8 0, .slice none 0 0, .slice none 0 0, .int .u64 0, .int .i64 0, .bool false] ∧ Chg NoB w w') ?hs ?_
  case hs => exact ⟨HB.out, (Chg.refl _ _).alloc _⟩
  intro wc hw
  have HBW := As.mk hw.1
  have HC := As.mk hw.2
  clear hw HB hb
  have HX : As (Chg NoB wc wc) := ⟨Chg.refl _ _⟩
  have KP : As (∀ w', Chg NoB wc w' → w'.cell? ⟨b, 0, none⟩ = some (.int .i64 0) ∧ w'.cell? ⟨b, 1, none⟩ = some (.int .u64 0) ∧ w'.cell? ⟨b, 2, none⟩ = some (.int .u8 0) ∧ w'.cell? ⟨b, 5, none⟩ = some (.int .u64 0)) := ⟨fun w' h => by
    have x := HBW.out.chg h (fun e => e)
    exact ⟨x.cell 0, x.cell 1, x.cell 2, x.cell 5⟩⟩
  go_region_held3 (fun w' => w'.cell? ⟨b, 0, none⟩ = some (.int .i64 0) ∧ w'.cell? ⟨b, 1, none⟩ = some (.int .u64 0) ∧ w'.cell? ⟨b, 2, none⟩ = some (.int .u8 0) ∧ w'.cell? ⟨b, 5, none⟩ = some (.int .u64 0)) (exact KP.out _ (by repeat (first | exact HX.out | (with_reducible apply Chg.drew) | (with_reducible apply Chg.alloc)))) (first
    | (go_simp
       refine (unix_zero _).mono ?_
       rintro e4 w4 ⟨rfl, hc4⟩
       have HX4 : As (Chg NoB wc w4) := ⟨Chg.trans (by repeat (first | exact HX.out | (with_reducible apply Chg.drew) | (with_reducible apply Chg.alloc))) hc4 (fun _ _ e => e)⟩
       clear hc4 HX
       have HX := HX4
       clear HX4))
  all_goals
    go_wp2_with fail
    go_ret
    exact ⟨_, rfl, HC.out.trans (by repeat (first | exact HX.out | (with_reducible apply Chg.drew) | (with_reducible apply Chg.alloc))) (fun _ _ e => e)⟩
end Go.Proofs.Ytdcamebmbadmbaa
