/- The walks of FnCountsOutside: what is outside of 65536 to 65011712 is not coded. -/
import Derived.Test.YtmakkjkbonnjgaaV2
import Derived.Test.YtmakkjkbonnjgaaProg
import Derived.WalkLawsBesides
import Derived.Recover
import Derived.Defers
set_option linter.unusedVariables false
set_option linter.unusedSimpArgs false
namespace Go.Proofs.Ytmakkjkbonnjgaa
open Go.RowKit V

set_option maxHeartbeats 400000 in
theorem decodeCount96 (w : World) : Calls Try.prog 25 #[.int .u8 96] w fun e w' => e = .returned (.int .i64 65536) ∧ w' = w := by
  go_enter Try.func25, Try.ntmps25
  go_wp2
  go_ret
  exact ⟨rfl, rfl⟩

/-- The words of the panic. -/
def Dies (e : Ending) : Prop := ∃ T s, e = .panicked [{ v := .iface T (.string s), recovered := false }]
set_option maxHeartbeats 400000 in
theorem encodeCount_out (n : Int) (w : World) (h : n < 65536 ∨ 65011712 < n) : Calls Try.prog 60 #[.int .i64 n] w fun e w' => Dies e ∧ w' = w := by
  rcases h with h | h
  · go_enter Try.func60, Try.ntmps60
    go_wp2
    exact ⟨rfl, ⟨_, _, rfl⟩, rfl⟩
  · have h2 : ¬ n < 65536 := by omega
    go_enter Try.func60, Try.ntmps60
    go_wp2
    exact ⟨rfl, ⟨_, _, rfl⟩, rfl⟩
set_option maxHeartbeats 400000 in
theorem zzEncodeCount_out (n : Int) (w : World) (h : n < 65536 ∨ 65011712 < n) : Calls Try.prog 46 #[.int .i64 n] w fun e w' => Dies e ∧ w' = w := by
  go_enter Try.func46, Try.ntmps46
  go_wp2_with fail
  refine (encodeCount_out n _ h).mono ?_
  rintro e w1 ⟨⟨T, s, rfl⟩, rfl⟩
  go_wp2
  exact ⟨rfl, ⟨_, _, rfl⟩, rfl⟩

theorem catchCount (p q : Addr) (x : Int) (b : Bool) (u : TypeId) (pv : Value) (older : List PanicEntry) (w : World) (hc : w.cell? p = some (.int .u8 x)) (hz : w.frozen? p = false) (hc2 : w.cell? q = some (.bool b)) (hz2 : w.frozen? q = false) (hne : p ≠ q) :
    CallsD Try.prog 45 #[.pointer (some p), .pointer (some q)] (.panicking ({ v := .iface u pv, recovered := false } :: older)) w fun e u' w' =>
      e = .returned (.tuple #[]) ∧ u' = .panicking ({ v := .iface u pv, recovered := true } :: older) ∧ w' = (w.setCell p (.int .u8 0)).setCell q (.bool false) := by
  have hc3 : (w.setCell p (.int .u8 0)).cell? q = some (.bool b) := by rw [World.cell?_setCell_other _ _ _ _ hne]; exact hc2
  refine callsD_of_wpS Try.func45 rfl fun c₀ cs hu => ?_
  apply wpS_seq
  apply wpS_region
  simp [wpOpsS, go_sem, recoverD, hu, Try.ntmps45, Exit.thenS]
  refine wpS_cond (t := true) (by simp [Act.eval, Array.replicate]) ?_
  simp only [if_true]
  apply wpS_region
  simp [wpOpsS, go_sem, hc, hz, hc3, hz2, bodyPostS, results, Try.results45]

def NotCoded (w : World) (e : Ending) (w' : World) : Prop := e = .returned (.tuple #[.int .u8 0, .bool false]) ∧ Chg NoB w w'
set_option maxHeartbeats 400000 in
theorem encodeCount_none (n : Int) (w : World) (h : n < 65536 ∨ 65011712 < n) : Calls Try.prog 26 #[.int .i64 n] w (NotCoded w) := by
  have hmf : ∀ (fn : Fn) (first cap : Array Value) (w : World), (Instr.makeFunc fn first cap).run Try.prog w = .ok (.func fn first cap) w := fun _ _ _ _ => rfl
  go_enter_defers Try.func26, Try.ntmps26
  go_wp2_with fail
  refine (zzEncodeCount_out n _ h).mono ?_
  rintro e w1 ⟨⟨T, s, rfl⟩, rfl⟩
  go_wp2
  refine leaves_cons (f := 45) (args := #[.pointer (some ⟨w.heap.size, 0, none⟩), .pointer (some ⟨w.heap.size + 1, 0, none⟩)]) (by simp) (by simp [go_sem]) ?_
  refine (catchCount ⟨w.heap.size, 0, none⟩ ⟨w.heap.size + 1, 0, none⟩ 0 false _ _ [] _ ?_ ?_ ?_ ?_ ?_).mono ?_
  · simp [go_sem]
  · simp [go_sem]
  · simp [go_sem]
  · simp [go_sem]
  · simp
  rintro e u' w'' ⟨rfl, rfl, rfl⟩
  simp [Leaves, settle, results, Try.results26, go_sem]
  exact ⟨rfl, ((Chg.refl NoB w).alloc _).alloc _⟩

set_option maxHeartbeats 400000 in
theorem fnCountsOutside_walk (n : Int) (W : World) (hn : (Lit.int .i64 n).wf = true) :
    Calls Try.prog 9 #[.int .i64 n] W fun e W' => e = .returned (.bool true) ∧ Below W.heap.size W W' := by
  by_cases h : n < 65536 ∨ 65011712 < n
  · rcases h with h | h
    · go_enter Try.func9, Try.ntmps9
      go_wp2_with (first | (go_at_call 26; refine (encodeCount_none n _ (.inl h)).mono ?_; rintro e w1 ⟨rfl, hc⟩) | (go_at_call 25; refine (decodeCount96 _).mono ?_; rintro e w1 ⟨rfl, rfl⟩))
      go_ret
      exact ⟨rfl, hc.below (Nat.le_refl _) (fun _ _ e => e)⟩
    · have h2 : ¬ n ≤ 65011712 := by omega
      have h3 : 65536 ≤ n := by omega
      go_enter Try.func9, Try.ntmps9
      go_wp2_with (first | (go_at_call 26; refine (encodeCount_none n _ (.inr h)).mono ?_; rintro e w1 ⟨rfl, hc⟩) | (go_at_call 25; refine (decodeCount96 _).mono ?_; rintro e w1 ⟨rfl, rfl⟩))
      go_ret
      exact ⟨rfl, hc.below (Nat.le_refl _) (fun _ _ e => e)⟩
  · have h2 : n ≤ 65011712 := by omega
    have h3 : 65536 ≤ n := by omega
    go_enter Try.func9, Try.ntmps9
    go_wp2_with (go_at_call 25; refine (decodeCount96 _).mono ?_; rintro e w1 ⟨rfl, rfl⟩)
    go_ret
    exact ⟨rfl, Below.refl _ _⟩
end Go.Proofs.Ytmakkjkbonnjgaa
