/- The walk of FnSaltLength. -/
import Derived.Test.YtbdofjaeelecdaaDoorEnd
import Derived.Test.YtbdofjaeelecdaaDoorIdOf
import Derived.Test.YtbdofjaeelecdaaDoorHashes
set_option linter.unusedVariables false
set_option linter.unusedSimpArgs false
namespace Go.Proofs.YtbdofjaeelecdaaDoor
open Go.RowKit V
set_option maxHeartbeats 1000000 in
theorem saltLength_none (h : Int) (w : World) (h5 : (h == 5) = false) (h4 : (h == 4) = false) (h11 : (h == 11) = false) (h6 : (h == 6) = false) (h7 : (h == 7) = false) (h13 : (h == 13) = false) :
    Calls Tryd.prog 7 #[.int .u64 h] w fun e w' => (∃ s, e = .returned (.tuple #[.int .i64 0, .iface 38 (.string s)])) ∧ w' = w := by
  go_enter Tryd.func7, Tryd.ntmps7
  go_wp2
  go_ret2
  exact ⟨⟨_, rfl⟩, rfl⟩
set_option maxHeartbeats 1000000 in
theorem implSaltLength_ok (id : Int) (w : World) (hid : IsId id) :
    Calls Tryd.prog 4 #[.int .i64 (goHash id)] w fun e w' => e = .returned (.tuple #[.int .i64 (saltLen id), .int .i64 0]) ∧ w' = w := by
  have hb : 0 ≤ goHash id ∧ goHash id ≤ 13 := by rcases hid with rfl | rfl | rfl | rfl | rfl | rfl <;> decide
  have hb0 := hb.1
  have hb1 := hb.2
  have HS := As.mk (fun w => saltLength_any id w hid)
  clear hb
  generalize goHash id = g at *
  generalize saltLen id = n at *
  go_enter Tryd.func4, Tryd.ntmps4
  go_wp2_with fail
  refine (HS.out _).mono ?_
  rintro e w1 ⟨rfl, rfl⟩
  go_wp2_with fail
  refine (end_nil _).mono ?_
  rintro e w2 ⟨rfl, rfl⟩
  go_wp2_with fail
  go_ret2
  exact ⟨rfl, rfl⟩
set_option maxHeartbeats 1000000 in
theorem implSaltLength_none (h : Int) (w : World) (a0 a1 : Addr) (hS : Sent w a0 a1) (wf : (Lit.int .i64 h).wf = true) (h5 : h ≠ 5) (h4 : h ≠ 4) (h11 : h ≠ 11) (h6 : h ≠ 6) (h7 : h ≠ 7) (h13 : h ≠ 13) :
    Calls Tryd.prog 4 #[.int .i64 h] w fun e w' => e = .returned (.tuple #[.int .i64 0, .int .i64 4]) ∧ w' = w := by
  have hw : -9223372036854775808 ≤ h ∧ h ≤ 9223372036854775807 := by
    simp [Lit.wf, IntKind.min, IntKind.max, IntKind.signed, IntKind.bits] at wf
    omega
  obtain ⟨g, hg⟩ : ∃ g, IntKind.u64.wrap h = g := ⟨_, rfl⟩
  have hgv : g = h % 18446744073709551616 := by rw [← hg]; simp [IntKind.wrap, IntKind.bits, IntKind.signed]
  have HS := As.mk (fun w => saltLength_none g w (by simp; omega) (by simp; omega) (by simp; omega) (by simp; omega) (by simp; omega) (by simp; omega))
  have HE := As.mk (fun s => end_unsupported s w a0 a1 hS)
  clear hgv hw wf h5 h4 h11 h6 h7 h13
  go_enter Tryd.func4, Tryd.ntmps4
  go_wp2_with fail
  refine (HS.out _).mono ?_
  rintro e w1 ⟨⟨s, rfl⟩, rfl⟩
  go_wp2_with fail
  refine (HE.out s).mono ?_
  rintro e w2 ⟨rfl, rfl⟩
  go_wp2_with fail
  go_ret2
  exact ⟨rfl, rfl⟩
set_option maxHeartbeats 1000000 in
theorem saltSize_two (w : World) : Calls Tryd.prog 6 #[.int .i64 2] w fun e w' => e = .returned (.int .i64 0) ∧ w' = w := by
  go_enter Tryd.func6, Tryd.ntmps6
  go_wp2
  go_ret
  exact ⟨rfl, rfl⟩
set_option maxHeartbeats 1000000 in
theorem salt_ok (id : Int) (W : World) (hid : IsId id) :
    Calls Tryd.prog 3 #[.int .i64 (goHash id)] W fun e W' => e = .returned (.bool true) ∧ Below W.heap.size W W' := by
  have HA := As.mk (fun w => implSaltLength_ok id w hid)
  have hI : idNo (goHash id) = id ∧ idIs (goHash id) = true := by rcases hid with rfl | rfl | rfl | rfl | rfl | rfl <;> decide
  have HI := As.mk (fun w => idOf_any (goHash id) w)
  rw [hI.1, hI.2] at HI
  have HZ := As.mk (fun w => saltSize_any id w hid)
  have hn : (saltLen id == 0) = false := by rcases hid with rfl | rfl | rfl | rfl | rfl | rfl <;> decide
  clear hI hid
  generalize goHash id = g at *
  generalize saltLen id = n at *
  go_enter Tryd.func3, Tryd.ntmps3
  go_wp2_with fail
  refine (HA.out _).mono ?_
  rintro e w1 ⟨rfl, rfl⟩
  go_wp2_with fail
  refine (HI.out _).mono ?_
  rintro e w2 ⟨rfl, hc2⟩
  have HC2 := As.mk hc2
  clear hc2
  go_wp2_with fail
  refine (HZ.out _).mono ?_
  rintro e w3 ⟨rfl, rfl⟩
  go_wp2_with fail
  refine (HZ.out _).mono ?_
  rintro e w4 ⟨rfl, rfl⟩
  go_wp2_with fail
  go_ret
  exact ⟨rfl, HC2.out.below (Nat.le_refl _) (fun _ _ e => e)⟩
set_option maxHeartbeats 1000000 in
theorem fnSaltLength_walk (h : Int) (W : World) (a0 a1 : Addr) (hS : Sent W a0 a1) (wf : (Lit.int .i64 h).wf = true) :
    Calls Tryd.prog 3 #[.int .i64 h] W fun e W' => e = .returned (.bool true) ∧ Below W.heap.size W W' := by
  by_cases h5 : h = 5
  · subst h5; exact salt_ok 8 W (by simp [IsId])
  by_cases h6 : h = 6
  · subst h6; exact salt_ok 9 W (by simp [IsId])
  by_cases h7 : h = 7
  · subst h7; exact salt_ok 10 W (by simp [IsId])
  by_cases h4 : h = 4
  · subst h4; exact salt_ok 11 W (by simp [IsId])
  by_cases h11 : h = 11
  · subst h11; exact salt_ok 12 W (by simp [IsId])
  by_cases h13 : h = 13
  · subst h13; exact salt_ok 14 W (by simp [IsId])
  have HA := As.mk (implSaltLength_none h W a0 a1 hS wf h5 h4 h11 h6 h7 h13)
  by_cases h3 : h = 3
  · subst h3
    clear h5 h6 h7 h4 h11 h13 wf
    have HI := As.mk (fun w => idOf_any 3 w)
    rw [show idNo 3 = 2 from by decide, show idIs 3 = true from by decide] at HI
    go_enter Tryd.func3, Tryd.ntmps3
    go_wp2_with fail
    refine HA.out.mono ?_
    rintro e w1 ⟨rfl, rfl⟩
    go_wp2_with fail
    refine (HI.out _).mono ?_
    rintro e w2 ⟨rfl, hc2⟩
    have HC2 := As.mk hc2
    clear hc2
    go_wp2_with fail
    refine (saltSize_two _).mono ?_
    rintro e w3 ⟨rfl, rfl⟩
    go_wp2_with fail
    go_ret
    exact ⟨rfl, HC2.out.below (Nat.le_refl _) (fun _ _ e => e)⟩
  · have HI := As.mk (fun w => idOf_any h w)
    rw [show idIs h = false from by simp [idIs, h5, h6, h7, h4, h11, h13, h3]] at HI
    generalize idNo h = id at *
    clear h5 h6 h7 h4 h11 h13 h3 wf
    go_enter Tryd.func3, Tryd.ntmps3
    go_wp2_with fail
    refine HA.out.mono ?_
    rintro e w1 ⟨rfl, rfl⟩
    go_wp2_with fail
    refine (HI.out _).mono ?_
    rintro e w2 ⟨rfl, hc2⟩
    have HC2 := As.mk hc2
    clear hc2
    go_wp2_with fail
    go_ret
    exact ⟨rfl, HC2.out.below (Nat.le_refl _) (fun _ _ e => e)⟩
end Go.Proofs.YtbdofjaeelecdaaDoor
