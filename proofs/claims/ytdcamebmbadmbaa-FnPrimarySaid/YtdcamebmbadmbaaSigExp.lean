/- Signature.SigExpired of a signature without a lifetime: it is later than the time that is asked of. -/
import Derived.Test.YtdcamebmbadmbaaFields
set_option linter.unusedVariables false
set_option linter.unusedSimpArgs false
namespace Go.Proofs.Ytdcamebmbadmbaa
open Go.RowKit V
theorem timeUnix_lit (s : Int) (w : World) (h0 : 0 ≤ s) (h1 : s ≤ 4294967296) :
    Calls Try.prog 24 #[.agg #[.int .u64 0, .int .i64 (s + 62135596800), .pointer none]] w fun e w' => e = .returned (.int .i64 s) ∧ Chg NoB w w' := timeUnix_any s w h0 h1
set_option maxRecDepth 100000 in
set_option maxHeartbeats 2000000 in
theorem sigExpired_any (g : Nat) (k t nw : Int) (q : Value) (w : World) (hg : Blk w g 95 (outCells k t q)) (h0 : 0 ≤ t) (h1 : t ≤ 4294967296) (m0 : 0 ≤ nw) (m1 : nw ≤ 4294967296) :
    Calls Try.prog 21 #[.pointer (some ⟨g, 0, none⟩), .agg (tmCells nw).toArray] w fun e w' => e = .returned (.bool (decide (nw < t))) ∧ Chg NoB w w' := by
  have HG := As.mk hg
  have glt := hg.lt
  clear hg
  have q0 : (tmCells nw)[0]? = some (.int .u64 0) := rfl
  go_enter Try.func21, Try.ntmps21
  go_upto_region 1 with fail
  obtain ⟨b, hb⟩ : ∃ b, b = w.heap.size := ⟨_, rfl⟩
  simp only [← hb]
  refine wp_world (fun w' => Blk w' b 70 (tmCells nw) ∧ Blk w' g 95 (outCells k t q) ∧ Chg NoB w w') ?hs ?_
  case hs => exact ⟨by rw [hb]; exact Blk.new w _ (tmCells nw), HG.out.alloc _, (Chg.refl _ _).alloc _⟩
  intro wc hw
  have HB := As.mk hw.1
  have HQ := As.mk hw.2.1
  have HC := As.mk hw.2.2
  clear hw q0 hb glt HG
  have KP : As (∀ w', Chg NoB wc w' → w'.cell? ⟨g, 9, none⟩ = some (.int .u64 0) ∧ w'.cell? ⟨g, 10, none⟩ = some (.int .i64 (t + 62135596800)) ∧ w'.cell? ⟨g, 11, none⟩ = some (.pointer none) ∧ w'.cell? ⟨b, 0, none⟩ = some (.int .u64 0) ∧ w'.cell? ⟨b, 1, none⟩ = some (.int .i64 (nw + 62135596800)) ∧ w'.cell? ⟨b, 2, none⟩ = some (.pointer none)) := ⟨fun w' h => by
    have x := HQ.out.chg h (fun e => e)
    have y := HB.out.chg h (fun e => e)
    exact ⟨x.cell 9, x.cell 10, x.cell 11, y.cell 0, y.cell 1, y.cell 2⟩⟩
  have HX : As (Chg NoB wc wc) := ⟨Chg.refl _ _⟩
  go_region_held3 (fun w' => w'.cell? ⟨g, 9, none⟩ = some (.int .u64 0) ∧ w'.cell? ⟨g, 10, none⟩ = some (.int .i64 (t + 62135596800)) ∧ w'.cell? ⟨g, 11, none⟩ = some (.pointer none) ∧ w'.cell? ⟨b, 0, none⟩ = some (.int .u64 0) ∧ w'.cell? ⟨b, 1, none⟩ = some (.int .i64 (nw + 62135596800)) ∧ w'.cell? ⟨b, 2, none⟩ = some (.pointer none)) (exact KP.out _ (by repeat (first | exact HX.out | (with_reducible apply Chg.drew) | (with_reducible apply Chg.alloc)))) (first
    | (go_simp
       refine (timeUnix_lit _ _ ?b0 ?b1).mono ?_
       case b0 => omega
       case b1 => omega
       rintro e4 w4 ⟨rfl, hc4⟩
       have HX4 : As (Chg NoB wc w4) := ⟨Chg.trans (by repeat (first | exact HX.out | (with_reducible apply Chg.drew) | (with_reducible apply Chg.alloc))) hc4 (fun _ _ e => e)⟩
       clear hc4 HX
       have HX := HX4
       clear HX4))
  by_cases hlt : nw < t
  · go_wp2_with fail
    go_ret
    exact ⟨by simp [hlt], HC.out.trans HX.out (fun _ _ e => e)⟩
  · have hge : t ≤ nw := by omega
    have HQ4 := HQ.out.chg HX.out (fun e => e)
    have c21 : w4.cell? ⟨g, 21, none⟩ = some (.pointer none) := HQ4.cell 21
    clear HQ4
    go_wp2_with fail
    go_ret
    exact ⟨by simp [hlt], HC.out.trans HX.out (fun _ _ e => e)⟩
end Go.Proofs.Ytdcamebmbadmbaa
