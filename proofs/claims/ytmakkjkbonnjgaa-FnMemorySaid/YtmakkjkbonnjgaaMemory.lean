/- The walks of FnMemory: memory is coded by the power of two. -/
import Derived.Test.YtmakkjkbonnjgaaV2
import Derived.Test.YtmakkjkbonnjgaaProg
import Derived.WalkLawsBesides
import Derived.Recover
import Derived.Defers
set_option linter.unusedVariables false
set_option linter.unusedSimpArgs false
namespace Go.Proofs.Ytmakkjkbonnjgaa
open Go.RowKit V

def pw (k : Nat) : Int := ((2 ^ k : Nat) : Int)
theorem pw_le {i j : Nat} (h : i ≤ j) : pw i ≤ pw j := by
  have : (2 : Nat) ^ i ≤ 2 ^ j := Nat.pow_le_pow_right (by decide) h
  unfold pw; omega
theorem pw_lt {i j : Nat} (h : i < j) : pw i < pw j := by
  have : (2 : Nat) ^ i < 2 ^ j := Nat.pow_lt_pow_right (by decide) h
  unfold pw; omega
theorem pw_31 : pw 31 = 2147483648 := by decide
theorem pw_3 : pw 3 = 8 := by decide
theorem pw_pos (k : Nat) : 1 ≤ pw k := by
  have := pw_le (Nat.zero_le k)
  have h0 : pw 0 = 1 := by decide
  omega
theorem pw_int (k : Nat) : (2 : Int) ^ k = pw k := by unfold pw; rw [Int.natCast_pow]; rfl
theorem pw_mod (k : Nat) (hk : k ≤ 31) : (2 : Int) ^ k % 4294967296 = pw k := by
  rw [pw_int]
  have := pw_le hk
  have := pw_pos k
  rw [pw_31] at *
  exact Int.emod_eq_of_lt (by omega) (by omega)

set_option maxHeartbeats 400000 in
theorem decodeMemory_any (k : Nat) (w : World) (hk : k ≤ 31) : Calls Try.prog 61 #[.int .u8 k] w fun e w' => e = .returned (.int .u32 (pw k)) ∧ w' = w := by
  go_enter Try.func61, Try.ntmps61
  go_wp2
  go_ret
  exact ⟨congrArg (fun z => Ending.returned (.int .u32 z)) (pw_mod k hk), rfl⟩
set_option maxHeartbeats 400000 in
theorem implDecodeMemory_any (k : Nat) (w : World) (hk : k ≤ 31) : Calls Try.prog 27 #[.int .u8 k] w fun e w' => e = .returned (.int .u32 (pw k)) ∧ w' = w := by
  go_enter Try.func27, Try.ntmps27
  go_wp2
  go_ret
  exact ⟨congrArg (fun z => Ending.returned (.int .u32 z)) (pw_mod k hk), rfl⟩

/-- The least power from 3 on that is at least m, or 31. -/
def IsM (m : Int) (r : Nat) : Prop := 3 ≤ r ∧ r ≤ 31 ∧ (∀ j, 3 ≤ j → j < r → pw j < m) ∧ (r = 31 ∨ m ≤ pw r)
def CodesM (m : Int) (w : World) (e : Ending) (w' : World) : Prop := ∃ r : Nat, e = .returned (.int .u8 (r : Int)) ∧ IsM m r ∧ w' = w
set_option maxHeartbeats 400000 in
theorem encodeMemory_in (m l : Int) (w : World) (hm : 0 ≤ m) (hl : 0 ≤ l ∧ l ≤ 255) (h1 : 8 * l ≤ m) (h2 : m ≤ 2147483648) : Calls Try.prog 62 #[.int .u32 m, .int .u8 l] w (CodesM m w) := by
  go_enter Try.func62, Try.ntmps62
  go_wp2_with fail
  go_loop [5] (fun i => ∃ k : Nat, 3 ≤ k ∧ k ≤ 31 ∧ i = .int .i64 k ∧ As (∀ j, 3 ≤ j → j < k → pw j < m)) (fun i => 31 - (intOf i).toNat)
  case atStart => exact ⟨3, by omega, by omega, rfl, ⟨fun j h3 h => by omega⟩⟩
  case round =>
    obtain ⟨k, hk3, hk31, rfl, HP⟩ := hrel
    by_cases hlt : k < 31
    · by_cases hge : m ≤ pw k
      · go_wp2_with (go_at_call 61; refine (decodeMemory_any k _ (by omega)).mono ?_; rintro e w1 ⟨rfl, rfl⟩)
        go_ret
        exact ⟨k, rfl, ⟨hk3, hk31, HP.out, .inr hge⟩, rfl⟩
      · have HN : As (∀ j, 3 ≤ j → j < k + 1 → pw j < m) := ⟨fun j h3 h => by
          by_cases e : j = k
          · subst e; omega
          · exact HP.out j h3 (by omega)⟩
        go_wp2_with (go_at_call 61; refine (decodeMemory_any k _ (by omega)).mono ?_; rintro e w1 ⟨rfl, rfl⟩)
        go_round
        case rel => exact ⟨k + 1, by omega, by omega, by go_num, HN⟩
        case measure => simp [intOf]; omega
    · obtain rfl : k = 31 := by omega
      go_wp2
      go_ret
      exact ⟨31, rfl, ⟨by omega, by omega, HP.out, .inl rfl⟩, rfl⟩
set_option maxHeartbeats 400000 in
theorem zzEncodeMemory_in (m l : Int) (w : World) (hm : 0 ≤ m) (hl : 0 ≤ l ∧ l ≤ 255) (h1 : 8 * l ≤ m) (h2 : m ≤ 2147483648) : Calls Try.prog 49 #[.int .u32 m, .int .u8 l] w (CodesM m w) := by
  go_enter Try.func49, Try.ntmps49
  go_wp2_with fail
  refine (encodeMemory_in m l _ hm hl h1 h2).mono ?_
  rintro e w1 ⟨r, rfl, hr, rfl⟩
  have HR := As.mk hr
  clear hr
  go_wp2
  go_ret
  exact ⟨r, rfl, HR.out, rfl⟩

theorem catchIdle (p q : Addr) (w : World) :
    CallsD Try.prog 48 #[.pointer (some p), .pointer (some q)] .returning w fun e u' w' => e = .returned (.tuple #[]) ∧ u' = .returning ∧ w' = w := by
  refine callsD_of_wpS Try.func48 rfl fun c₀ cs hu => ?_
  apply wpS_seq
  apply wpS_region
  simp [wpOpsS, go_sem, recoverD, hu, Try.ntmps48, Exit.thenS]
  refine wpS_cond (t := false) (by simp [Act.eval, Array.replicate]) ?_
  simp only [Bool.false_eq_true, if_false]
  refine wpS_of_wp (wp_skip ?_)
  cases c₀
  simp_all [bodyPostS, results, Try.results48]

def CodedM (m : Int) (w : World) (e : Ending) (w' : World) : Prop := ∃ r : Nat, e = .returned (.tuple #[.int .u8 (r : Int), .bool true]) ∧ IsM m r ∧ Chg NoB w w'
set_option maxHeartbeats 400000 in
theorem implEncodeMemory_in (m l : Int) (w : World) (hm : 0 ≤ m) (hl : 0 ≤ l ∧ l ≤ 255) (h1 : 8 * l ≤ m) (h2 : m ≤ 2147483648) : Calls Try.prog 28 #[.int .u32 m, .int .u8 l] w (CodedM m w) := by
  have hmf : ∀ (fn : Fn) (first cap : Array Value) (w : World), (Instr.makeFunc fn first cap).run Try.prog w = .ok (.func fn first cap) w := fun _ _ _ _ => rfl
  go_enter_defers Try.func28, Try.ntmps28
  go_wp2_with fail
  refine (zzEncodeMemory_in m l _ hm hl h1 h2).mono ?_
  rintro e w1 ⟨r, rfl, hr, rfl⟩
  have HR := As.mk hr
  clear hr
  go_wp2
  refine leaves_cons (f := 48) (args := #[.pointer (some ⟨w.heap.size, 0, none⟩), .pointer (some ⟨w.heap.size + 1, 0, none⟩)]) (by simp) (by simp [go_sem]) ?_
  refine (catchIdle ⟨w.heap.size, 0, none⟩ ⟨w.heap.size + 1, 0, none⟩ _).mono ?_
  rintro e u' w'' ⟨rfl, rfl, rfl⟩
  simp [Leaves, settle, results, Try.results28, go_sem]
  exact ⟨r, rfl, HR.out, ((Chg.refl NoB w).alloc _).alloc _⟩

theorem isM_pow {k r : Nat} (h3 : 3 ≤ k) (hk : k ≤ 31) (h : IsM (pw k) r) : r = k := by
  obtain ⟨a, b, c, d⟩ := h
  rcases Nat.lt_trichotomy r k with h1 | h1 | h1
  · rcases d with d | d
    · omega
    · have := pw_lt h1; omega
  · exact h1
  · have := c k h3 h1; omega
theorem isM_facts {m : Int} {r : Nat} (h8 : 8 ≤ m) (h31 : m ≤ 2147483648) (h : IsM m r) : r < 32 ∧ 3 ≤ r ∧ m ≤ (2 : Int) ^ r % 4294967296 ∧ (2 : Int) ^ (r - 1) % 4294967296 < m := by
  obtain ⟨a, b, c, d⟩ := h
  rw [pw_mod r b, pw_mod (r - 1) (by omega)]
  refine ⟨by omega, a, ?_, ?_⟩
  · rcases d with d | d
    · subst d; rw [pw_31]; exact h31
    · exact d
  · by_cases e : r = 3
    · subst e; have : pw (3 - 1) = 4 := by decide
      omega
    · exact c (r - 1) (by omega) (by omega)

set_option maxHeartbeats 1000000 in
theorem fnMemory_walk (m l p : Int) (W : World) (hm : (Lit.int .u32 m).wf = true) (hl : (Lit.int .u8 l).wf = true) (hp : (Lit.int .u8 p).wf = true) :
    Calls Try.prog 10 #[.int .u32 m, .int .u8 l, .int .u8 p] W fun e W' => e = .returned (.bool true) ∧ Below W.heap.size W W' := by
  obtain ⟨m0, m1⟩ := wf_u32_lt hm
  obtain ⟨l0, l1⟩ := wf_u8_byte hl
  obtain ⟨p0, p1⟩ := wf_u8_byte hp
  obtain ⟨k, hk⟩ : ∃ k : Nat, p % 32 = (k : Int) := ⟨(p % 32).toNat, by omega⟩
  have hk31 : k ≤ 31 := by omega
  clear hm hl hp
  have hpm := pw_mod k hk31
  have hpi := pw_int k
  have hp1 := pw_pos k
  have hp2 := pw_le hk31
  rw [pw_31] at hp2
  have hw : wrap64 ((2 : Int) ^ k) = pw k := by rw [hpi]; unfold wrap64; omega
  have hne : (pw k != (2 : Int) ^ k % 4294967296) = false := by rw [hpm]; simp
  by_cases hl0 : l = 0
  · clear hpm hpi hw
    subst hl0
    go_enter Try.func10, Try.ntmps10
    go_wp2_with fail
    go_quiet ((go_at_call 27; exact Calls.quiet_of_same (implDecodeMemory_any k _ hk31)))
    go_wp2_with fail
    all_goals go_ret
    all_goals exact ⟨rfl, ((Chg.refl NoB W).drewN _).below (Nat.le_refl _) (fun _ _ e => e)⟩
  · have hl2 : 0 < l := by omega
    have hl3 : (l == 0) = false := by simp [hl0]
    by_cases hA : 8 * l ≤ pw k
    · have hA2 : 8 * l ≤ wrap64 ((2 : Int) ^ k) := by rw [hw]; exact hA
      have hA3 : 8 * l ≤ (2 : Int) ^ k % 4294967296 := by rw [hpm]; exact hA
      have hA4 : 0 ≤ (2 : Int) ^ k % 4294967296 := by rw [hpm]; omega
      have hA5 : (2 : Int) ^ k % 4294967296 ≤ 2147483648 := by rw [hpm]; exact hp2
      have hk3 : 3 ≤ k := by
        rcases Nat.lt_or_ge k 3 with h | h
        · have := pw_le (show k ≤ 2 by omega); have h4 : pw 2 = 4 := by decide
          omega
        · exact h
      have HPM := As.mk hpm
      clear hpm hpi hw
      by_cases hB : 8 * l ≤ m ∧ m ≤ 2147483648
      · obtain ⟨hB1, hB2⟩ := hB
        go_enter Try.func10, Try.ntmps10
        go_wp2_with fail
        go_quiet ((go_at_call 27; exact Calls.quiet_of_same (implDecodeMemory_any k _ hk31)))
        go_wp2_with fail
        refine (implEncodeMemory_in _ l _ hA4 ⟨l0, l1⟩ hA3 hA5).mono ?_
        rintro e w1 ⟨r, rfl, hr, hc1⟩
        rw [HPM.out] at hr
        obtain rfl := isM_pow hk3 hk31 hr
        clear hr
        go_wp2_with fail
        refine (implEncodeMemory_in m l _ m0 ⟨l0, l1⟩ hB1 hB2).mono ?_
        rintro e w2 ⟨r2, rfl, hr2, hc2⟩
        obtain ⟨f1, f2, f3, f4⟩ := isM_facts (by omega) hB2 hr2
        clear hr2
        have f5 : ((r2 : Int) == 0) = false := by simp; omega
        go_wp2_with fail
        go_ret
        exact ⟨rfl, ((((Chg.refl NoB W).drewN _).trans hc1 (fun _ _ e => e)).trans hc2 (fun _ _ e => e)).below (Nat.le_refl _) (fun _ _ e => e)⟩
      · rcases (by omega : m < 8 * l ∨ (8 * l ≤ m ∧ 2147483648 < m)) with hB | ⟨hB0, hB⟩
        all_goals
          go_enter Try.func10, Try.ntmps10
          go_wp2_with fail
          go_quiet ((go_at_call 27; exact Calls.quiet_of_same (implDecodeMemory_any k _ hk31)))
          go_wp2_with fail
          refine (implEncodeMemory_in _ l _ hA4 ⟨l0, l1⟩ hA3 hA5).mono ?_
          rintro e w1 ⟨r, rfl, hr, hc1⟩
          rw [HPM.out] at hr
          obtain rfl := isM_pow hk3 hk31 hr
          clear hr
          go_wp2_with fail
          go_ret
          exact ⟨rfl, ((((Chg.refl NoB W).drewN _).trans hc1 (fun _ _ e => e))).below (Nat.le_refl _) (fun _ _ e => e)⟩
    · have hA2 : wrap64 ((2 : Int) ^ k) < 8 * l := by rw [hw]; omega
      clear hpm hpi hw
      by_cases hB : 8 * l ≤ m ∧ m ≤ 2147483648
      · obtain ⟨hB1, hB2⟩ := hB
        go_enter Try.func10, Try.ntmps10
        go_wp2_with fail
        go_quiet ((go_at_call 27; exact Calls.quiet_of_same (implDecodeMemory_any k _ hk31)))
        go_wp2_with fail
        refine (implEncodeMemory_in m l _ m0 ⟨l0, l1⟩ hB1 hB2).mono ?_
        rintro e w2 ⟨r2, rfl, hr2, hc2⟩
        obtain ⟨f1, f2, f3, f4⟩ := isM_facts (by omega) hB2 hr2
        clear hr2
        have f5 : ((r2 : Int) == 0) = false := by simp; omega
        go_wp2_with fail
        go_ret
        exact ⟨rfl, ((((Chg.refl NoB W).drewN _).trans hc2 (fun _ _ e => e))).below (Nat.le_refl _) (fun _ _ e => e)⟩
      · rcases (by omega : m < 8 * l ∨ (8 * l ≤ m ∧ 2147483648 < m)) with hB | ⟨hB0, hB⟩
        all_goals
          go_enter Try.func10, Try.ntmps10
          go_wp2_with fail
          go_quiet ((go_at_call 27; exact Calls.quiet_of_same (implDecodeMemory_any k _ hk31)))
          go_wp2_with fail
          go_ret
          exact ⟨rfl, ((Chg.refl NoB W).drewN _).below (Nat.le_refl _) (fun _ _ e => e)⟩
end Go.Proofs.Ytmakkjkbonnjgaa
