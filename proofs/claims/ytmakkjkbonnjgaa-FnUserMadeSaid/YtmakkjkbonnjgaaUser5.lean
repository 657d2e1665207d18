/- The walk of FnUserMade. -/
import Derived.Test.YtmakkjkbonnjgaaUser4
import Derived.Laws.Cover1
set_option linter.unusedVariables false
set_option linter.unusedSimpArgs false
namespace Go.Proofs.Ytmakkjkbonnjgaa
open Go.RowKit V
attribute [-go_sem] Go.run_max_int3
set_option maxRecDepth 100000 in
set_option maxHeartbeats 2000000 in
theorem fnUserMade_walk (a b c : ByteArray) (W : World) (ha : a.size ≤ maxLen) (hla : a.size ≤ 140737488351232) (hb : b.size ≤ maxLen) (hlb : b.size ≤ 140737488351232) (hc : c.size ≤ maxLen) (hlc : c.size ≤ 140737488351232) :
    Calls Try.prog 13 #[.string a, .string b, .string c] W fun e W' => e = .returned (.bool true) ∧ Below W.heap.size W W' := by
  clear ha hb hc
  by_cases h1 : 2147483647 < a.size
  · go_enter Try.func13, Try.ntmps13
    go_wp2_with fail
    go_ret
    exact ⟨rfl, Below.refl _ _⟩
  by_cases h2 : 2147483647 < b.size
  · go_enter Try.func13, Try.ntmps13
    go_wp2_with fail
    go_ret
    exact ⟨rfl, Below.refl _ _⟩
  by_cases h3 : 2147483647 < c.size
  · go_enter Try.func13, Try.ntmps13
    go_wp2_with fail
    go_ret
    exact ⟨rfl, Below.refl _ _⟩
  obtain ⟨m, hm, hmx⟩ : ∃ m : Int, ((m : Int) ≤ 200 ↔ a.size ≤ 200 ∧ b.size ≤ 200 ∧ c.size ≤ 200) ∧ ∀ (ts : Array TypeId) (t : TypeId) (w : World), (Builtin.max_ ts t #[.int .i64 (a.size : Int), .int .i64 (b.size : Int), .int .i64 (c.size : Int)]).run Try.prog w = .ok (.int .i64 m) w := by
    refine ⟨_, ?_, fun ts t w => run_max_int3 w ts t _ _ _ _ _ _⟩
    constructor
    · intro h; split at h <;> split at h <;> omega
    · intro h; split <;> split <;> omega
  have HM := As.mk hm
  clear hm
  by_cases h4 : a.size ≤ 200 ∧ b.size ≤ 200 ∧ c.size ≤ 200
  · have hm2 := HM.out.2 h4
    obtain ⟨h4, h5, h6⟩ := h4
    by_cases hf : fine a ∧ fine b ∧ fine c
    · have HF := As.mk hf
      clear hf
      go_enter Try.func13, Try.ntmps13
      go_wp2_with fail
      refine (makeUser_good a b c HF.out (by omega) (by omega) (by omega) _).mono ?_
      rintro e w1 ⟨rfl, hc1⟩
      have C1 := As.mk hc1
      clear hc1
      go_wp2_with fail
      refine (isUserPart_any a hla _).mono ?_
      rintro e w2 ⟨b1, rfl, q1, rfl⟩
      obtain rfl : b1 = true := q1.2 HF.out.1
      clear q1
      go_wp2_with fail
      refine (isUserPart_any b hlb _).mono ?_
      rintro e w2 ⟨b1, rfl, q1, rfl⟩
      obtain rfl : b1 = true := q1.2 HF.out.2.1
      clear q1
      go_wp2_with fail
      refine (isUserPart_any c hlc _).mono ?_
      rintro e w2 ⟨b1, rfl, q1, rfl⟩
      obtain rfl : b1 = true := q1.2 HF.out.2.2
      clear q1
      go_wp2_with fail
      go_quiet (exact Calls.quiet_of_same (userId_any a b c (by omega) (by omega) (by omega) _))
      go_wp2
      go_ret
      exact ⟨rfl, ((C1.out.alloc _).drewN _).below (Nat.le_refl _) (fun _ _ e => e)⟩
    · have HF := As.mk hf
      clear hf
      go_enter Try.func13, Try.ntmps13
      go_wp2_with fail
      refine (makeUser_bad a b c HF.out _).mono ?_
      rintro e w1 ⟨rfl, hc1⟩
      have C1 := As.mk hc1
      clear hc1
      go_wp2_with fail
      refine (isUserPart_any a hla _).mono ?_
      rintro e w2 ⟨b1, rfl, q1, rfl⟩
      rcases b1 with _ | _
      · clear q1
        go_wp2
        go_ret
        exact ⟨rfl, (C1.out.alloc _).below (Nat.le_refl _) (fun _ _ e => e)⟩
      have F1 := As.mk (q1.1 rfl)
      clear q1
      go_wp2_with fail
      refine (isUserPart_any b hlb _).mono ?_
      rintro e w2 ⟨b1, rfl, q1, rfl⟩
      rcases b1 with _ | _
      · clear q1
        go_wp2
        go_ret
        exact ⟨rfl, (C1.out.alloc _).below (Nat.le_refl _) (fun _ _ e => e)⟩
      have F2 := As.mk (q1.1 rfl)
      clear q1
      go_wp2_with fail
      refine (isUserPart_any c hlc _).mono ?_
      rintro e w2 ⟨b1, rfl, q1, rfl⟩
      rcases b1 with _ | _
      · clear q1
        go_wp2
        go_ret
        exact ⟨rfl, (C1.out.alloc _).below (Nat.le_refl _) (fun _ _ e => e)⟩
      exact absurd ⟨F1.out, F2.out, q1.1 rfl⟩ HF.out
  · have hm2 : 200 < m := by
      have h := HM.out
      have h5 : ¬ m ≤ 200 := fun e => h4 (h.1 e)
      omega
    go_enter Try.func13, Try.ntmps13
    go_wp2_with fail
    go_ret
    exact ⟨rfl, Below.refl _ _⟩
end Go.Proofs.Ytmakkjkbonnjgaa
