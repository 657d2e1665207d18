/- The contracts of the sequence verifier's transitions (ahead of the literal data, behind it), and of the choice between them. -/
import Derived.Test.YtllcfihbepmphaaSeq1
set_option linter.unusedVariables false
set_option linter.unusedSimpArgs false
namespace Go.Proofs.Ytllcfihbepmphaa
open Go.RowKit V
theorem results_tmp4 {fn : Func} {t u v x : Tmp} (h : fn.results = #[.tmp t, .tmp u, .tmp v, .tmp x]) (tmps : Array Value) (P : Program) (w : World) :
    (results fn tmps).run P w = .ok (.tuple #[tmps.getD t undef, tmps.getD u undef, tmps.getD v undef, tmps.getD x undef]) w := by
  simp [results, h]
/-- What a transition hands back: an error, or the next state and what is pushed. -/
def Trans (w : World) (r : Option (Int × List Int)) (e : Ending) (w' : World) : Prop :=
  match r with
  | none => (∃ s, e = .returned (.tuple #[.int .i8 0, .slice none 0 0, .bool false, .iface 178 (.string s)])) ∧ Chg NoB w w'
  | some (q, ps) => ∃ A c, e = .returned (.tuple #[.int .i8 q, .slice A ps.length c, .bool false, .nilIface]) ∧ Rk .i8 w' A ps ∧ (∀ ad, A = some ad → w.heap.size ≤ ad.block) ∧ Chg NoB w w'
def trOpen (x s : Int) : Option (Int × List Int) :=
  if s ≠ 0 then none else if x = 0 then some (2, []) else if x = 1 then some (0, [0]) else if x = 2 then some (0, [1, 0]) else none
def trLit (x s : Int) : Option (Int × List Int) :=
  if x = 1 ∧ s = 1 then some (2, []) else if x = 6 ∧ s = 3 then some (5, []) else none
theorem transNil (w : World) (q : Int) : Trans w (some (q, [])) (.returned (.tuple #[.int .i8 q, .slice none 0 0, .bool false, .nilIface])) w :=
  ⟨none, 0, rfl, Rk.none_, (fun ad e => by cases e), Chg.refl _ _⟩
theorem transLit (w : World) (q : Int) (ps : List Int) (n : Nat) (hn : n = ps.length) (hl : n ≤ 4) (o : Obj) (ho : o = .cells (nums .i8 ps).toArray 113) :
    Trans w (some (q, ps)) (.returned (.tuple #[.int .i8 q, .slice (some ⟨w.heap.size, 0, none⟩) n n, .bool false, .nilIface])) (w.alloc o) := by
  subst hn
  subst ho
  exact ⟨_, _, rfl, own_reads (own_lit w w.heap.size 113 .i8 ps (Nat.le_refl _) (by simp only [maxLen]; omega)), (fun ad e => by injection e with e; subst e; exact Nat.le_refl _), (Chg.refl _ w).alloc _⟩
set_option maxRecDepth 100000 in
set_option maxHeartbeats 1000000 in
theorem fromOpen_any (x s : Int) (w : World) (hx : x = 0 ∨ x = 1 ∨ x = 2 ∨ x = 6) :
    Calls Try.prog 46 #[.int .u8 x, .int .i8 s] w (Trans w (trOpen x s)) := by
  by_cases h : s = 0
  · subst h
    rcases hx with rfl | rfl | rfl | rfl
    · have hT : As (trOpen 0 0 = some (2, [])) := ⟨by simp [trOpen]⟩
      go_enter Try.func46, Try.ntmps46
      go_wp2
      (try simp only [Exit.inBlock, Exit.then])
      refine bodyPost_ret (results_tmp4 rfl _ _ _) rfl ?_
      rw [hT.out]; exact transNil w 2
    · have hT : As (trOpen 1 0 = some (0, [0])) := ⟨by simp [trOpen]⟩
      go_enter Try.func46, Try.ntmps46
      go_wp2
      (try simp only [Exit.inBlock, Exit.then])
      refine bodyPost_ret (results_tmp4 rfl _ _ _) rfl ?_
      rw [hT.out]; exact transLit w 0 [0] 1 rfl (by omega) _ rfl
    · have hT : As (trOpen 2 0 = some (0, [1, 0])) := ⟨by simp [trOpen]⟩
      go_enter Try.func46, Try.ntmps46
      go_wp2
      (try simp only [Exit.inBlock, Exit.then])
      refine bodyPost_ret (results_tmp4 rfl _ _ _) rfl ?_
      rw [hT.out]; exact transLit w 0 [1, 0] 2 rfl (by omega) _ rfl
    · have hT : As (trOpen 6 0 = none) := ⟨by simp [trOpen]⟩
      go_enter Try.func46, Try.ntmps46
      go_wp2
      (try simp only [Exit.inBlock, Exit.then])
      refine bodyPost_ret (results_tmp4 rfl _ _ _) rfl ?_
      rw [hT.out]; exact ⟨⟨_, rfl⟩, Chg.refl _ _⟩
  · have hT : As (trOpen x s = none) := ⟨by simp [trOpen, h]⟩
    go_enter Try.func46, Try.ntmps46
    go_wp2
    (try simp only [Exit.inBlock, Exit.then])
    refine bodyPost_ret (results_tmp4 rfl _ _ _) rfl ?_
    rw [hT.out]; exact ⟨⟨_, rfl⟩, Chg.refl _ _⟩
set_option maxRecDepth 100000 in
set_option maxHeartbeats 1000000 in
theorem fromLit_any (x s : Int) (w : World) :
    Calls Try.prog 47 #[.int .u8 x, .int .i8 s] w (Trans w (trLit x s)) := by
  by_cases h1 : x = 1
  · subst h1
    by_cases h : s = 1
    · subst h
      have hT : As (trLit 1 1 = some (2, [])) := ⟨by simp [trLit]⟩
      go_enter Try.func47, Try.ntmps47
      go_wp2
      (try simp only [Exit.inBlock, Exit.then])
      refine bodyPost_ret (results_tmp4 rfl _ _ _) rfl ?_
      rw [hT.out]; exact transNil w 2
    · have hT : As (trLit 1 s = none) := ⟨by simp [trLit, h]⟩
      go_enter Try.func47, Try.ntmps47
      go_wp2
      (try simp only [Exit.inBlock, Exit.then])
      refine bodyPost_ret (results_tmp4 rfl _ _ _) rfl ?_
      rw [hT.out]; exact ⟨⟨_, rfl⟩, Chg.refl _ _⟩
  · by_cases h6 : x = 6
    · subst h6
      by_cases h : s = 3
      · subst h
        have hT : As (trLit 6 3 = some (5, [])) := ⟨by simp [trLit]⟩
        go_enter Try.func47, Try.ntmps47
        go_wp2
        (try simp only [Exit.inBlock, Exit.then])
        refine bodyPost_ret (results_tmp4 rfl _ _ _) rfl ?_
        rw [hT.out]; exact transNil w 5
      · have hT : As (trLit 6 s = none) := ⟨by simp [trLit, h]⟩
        go_enter Try.func47, Try.ntmps47
        go_wp2
        (try simp only [Exit.inBlock, Exit.then])
        refine bodyPost_ret (results_tmp4 rfl _ _ _) rfl ?_
        rw [hT.out]; exact ⟨⟨_, rfl⟩, Chg.refl _ _⟩
    · have hT : As (trLit x s = none) := ⟨by simp [trLit, h1, h6]⟩
      go_enter Try.func47, Try.ntmps47
      go_wp2
      (try simp only [Exit.inBlock, Exit.then])
      refine bodyPost_ret (results_tmp4 rfl _ _ _) rfl ?_
      rw [hT.out]; exact ⟨⟨_, rfl⟩, Chg.refl _ _⟩
set_option maxHeartbeats 1000000 in
theorem getTransition_open (w : World) :
    Calls Try.prog 35 #[.int .i8 0] w fun e w' => e = .returned (.func (.func 46) #[] #[]) ∧ w' = w := by
  go_enter Try.func35, Try.ntmps35
  go_wp2
  go_ret
  exact ⟨rfl, rfl⟩
set_option maxHeartbeats 1000000 in
theorem getTransition_lit (w : World) :
    Calls Try.prog 35 #[.int .i8 2] w fun e w' => e = .returned (.func (.func 47) #[] #[]) ∧ w' = w := by
  go_enter Try.func35, Try.ntmps35
  go_wp2
  go_ret
  exact ⟨rfl, rfl⟩
end Go.Proofs.Ytllcfihbepmphaa
