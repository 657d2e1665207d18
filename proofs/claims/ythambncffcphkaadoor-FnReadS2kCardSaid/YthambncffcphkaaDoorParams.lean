/- The contracts of s2k.Params: salt, ZzFields, validateArgon2Params. A copy as one step of a region that draws. -/
import Derived.Test.YthambncffcphkaaDoorBase
import Derived.Test.YthambncffcphkaaDoorRow
import Derived.WalkLawsBesides
set_option linter.unusedVariables false
set_option linter.unusedSimpArgs false
namespace Go.Proofs.YthambncffcphkaaDoor
open Go.RowKit V
theorem step_copy_rk {P : Program} {et : TypeId} {ops : Array Oper} {o : Oper} {a : Act} {K : Act → World → Prop} {Q : Exit → Act → World → Prop} {E : Prop} {w : World} {N : Tmp} (_hd : o.dst = some N) (hgd : o.guard = none) (d s : Operand) (dT sT : TypeId)
    (ho : o.op = .call { callee := .builtin .copy, args := #[d, s], argTypes := #[dT, sT] }) (base : Nat) (e : TypeId) (k : IntKind) (hu : P.underlying dT = some (.slice e)) (hsz : (P.info? e).map (·.size) = some 1)
    (g cap : Nat) (xs : List Int) (HO : Own w base et k (.slice (some ⟨g, 0, none⟩) xs.length cap) xs) (dA : Option Addr) (off n dc : Nat) (hoff : off + n ≤ xs.length) (hd : a.eval d = .slice dA n dc) (hA : 0 < n → dA = some ⟨g, off, none⟩)
    (A : Option Addr) (ys : List Int) (m c : Nat) (hm : m = ys.length) (hs : a.eval s = .slice A m c) (HR : Rk k w A ys)
    (h : ∀ w1, Own w1 base et k (.slice (some ⟨g, 0, none⟩) xs.length cap) (splice xs off (ys.take n)) → w.grownBy w1 (some g) → K (a.put o.dst (goInt ((min ys.length n : Nat) : Int))) w1) :
    if Region.wanted o (yielded ops a.tmps) = true then Oper.wp P o a w K Q else E := by
  subst hm
  have hw : Region.wanted o (yielded ops a.tmps) = true := by simp [Region.wanted, hgd]
  rw [if_pos hw]
  obtain ⟨w1, hr, h2, h3⟩ := run_copy_own w base dT sT o.type e k hu hsz g cap xs HO dA off n dc hoff hA A ys c HR
  unfold Oper.wp execOp
  simp only [ho, resolve, invoke, builtin, Sem.run_bind, Sem.run_pure, Result.andThen_ok, List.map_toArray, List.map_cons, List.map_nil, hd, hs, hr]
  exact h w1 h2 h3
theorem results_tmp7 {fn : Func} {a b c d e f g : Tmp} (h : fn.results = #[.tmp a, .tmp b, .tmp c, .tmp d, .tmp e, .tmp f, .tmp g]) (tmps : Array Value) (P : Program) (w : World) :
    (results fn tmps).run P w = .ok (.tuple #[tmps.getD a undef, tmps.getD b undef, tmps.getD c undef, tmps.getD d undef, tmps.getD e undef, tmps.getD f undef, tmps.getD g undef]) w := by
  simp [results, h]
/-- The salt's place. -/
def saltV (g k : Nat) : Value := if k = 0 then .slice none 0 0 else if k = 4 then .slice (some ⟨g, 2, none⟩) 16 16 else .slice (some ⟨g, 2, none⟩) 8 16
set_option maxHeartbeats 1000000 in
theorem salt_any (g k : Nat) (w : World) (hk : k = 0 ∨ k = 1 ∨ k = 3 ∨ k = 4) (hc : w.cell? ⟨g, 0, none⟩ = some (.int .u8 (k : Int))) :
    Calls Tryd.prog 25 #[.pointer (some ⟨g, 0, none⟩)] w fun e w' => e = .returned (saltV g k) ∧ w' = w := by
  rcases hk with rfl | rfl | rfl | rfl
  all_goals
    go_enter Tryd.func25, Tryd.ntmps25
    go_wp2
    go_ret
    exact ⟨rfl, rfl⟩
set_option maxRecDepth 100000 in
set_option maxHeartbeats 2000000 in
theorem zzFields_any (g k : Nat) (h cnt p y r : Int) (w : World) (hk : k = 0 ∨ k = 1 ∨ k = 3 ∨ k = 4) (c0 : w.cell? ⟨g, 0, none⟩ = some (.int .u8 (k : Int))) (c1 : w.cell? ⟨g, 1, none⟩ = some (.int .u8 h)) (c18 : w.cell? ⟨g, 18, none⟩ = some (.int .u8 cnt)) (c19 : w.cell? ⟨g, 19, none⟩ = some (.int .u8 p)) (c20 : w.cell? ⟨g, 20, none⟩ = some (.int .u8 y)) (c21 : w.cell? ⟨g, 21, none⟩ = some (.int .u8 r)) (hk1 : (k : Int) ≤ 255) :
    Calls Tryd.prog 20 #[.pointer (some ⟨g, 0, none⟩)] w fun e w' => e = .returned (.tuple #[.int .u8 (k : Int), .int .u8 h, saltV g k, .int .u8 cnt, .int .u8 p, .int .u8 y, .int .u8 r]) ∧ ∃ n, w' = w.drewN n := by
  have HS := As.mk (fun n => salt_any g k (w.drewN n) hk c0)
  generalize saltV g k = sv at *
  clear hk
  go_enter Tryd.func20, Tryd.ntmps20
  go_wp2_with fail
  go_quiet ((go_at_call 25; exact Calls.quiet_of_same (HS.out _)))
  go_wp2_with fail
  refine bodyPost_ret (results_tmp7 rfl _ _ _) rfl ?_
  exact ⟨rfl, nq, rfl⟩
theorem pw32 : ∀ k : Nat, k ≤ 31 → (2 : Int) ^ k % 4294967296 = ((2 ^ k : Nat) : Int) := by decide +kernel
set_option maxHeartbeats 1000000 in
theorem decodeMemory_some (k : Nat) (w : World) (hk : k ≤ 31) : Calls Tryd.prog 29 #[.int .u8 k] w fun e w' => e = .returned (.int .u32 ((2 ^ k : Nat) : Int)) ∧ w' = w := by
  go_enter Tryd.func29, Tryd.ntmps29
  go_wp2
  go_ret
  exact ⟨congrArg (fun z => Ending.returned (.int .u32 z)) (pw32 k hk), rfl⟩
set_option maxRecDepth 100000 in
set_option maxHeartbeats 2000000 in
theorem validate_ok (g k : Nat) (p y : Int) (w : World) (hk : k ≤ 31) (p0 : p ≠ 0) (y0 : y ≠ 0) (y1 : 0 ≤ y) (y2 : y ≤ 255) (hv : y * 8 ≤ ((2 ^ k : Nat) : Int)) (c19 : w.cell? ⟨g, 19, none⟩ = some (.int .u8 p)) (c20 : w.cell? ⟨g, 20, none⟩ = some (.int .u8 y)) (c21 : w.cell? ⟨g, 21, none⟩ = some (.int .u8 (k : Int))) :
    Calls Tryd.prog 26 #[.pointer (some ⟨g, 0, none⟩)] w fun e w' => e = .returned .nilIface ∧ ∃ n, w' = w.drewN n := by
  have HD := As.mk (fun n => decodeMemory_some k (w.drewN n) hk)
  have bp : (p == 0) = false := by simpa using p0
  have by_ : (y == 0) = false := by simpa using y0
  have hk2 : ¬ ((31 : Int) < (k : Int)) := by omega
  have hk3 : (k : Int) ≤ 31 := by omega
  have hlt : ¬ (((2 ^ k : Nat) : Int) < 8 * y) := by omega
  have hw1 : IntKind.u32.wrap (8 * y) = 8 * y := by simp [IntKind.wrap, IntKind.bits, IntKind.signed]; omega
  have hw2 : IntKind.u32.wrap y = y := by simp [IntKind.wrap, IntKind.bits, IntKind.signed]; omega
  generalize ((2 ^ k : Nat) : Int) = q at *
  clear p0 y0 hv hk
  go_enter Tryd.func26, Tryd.ntmps26
  go_wp2_with fail
  go_quiet ((go_at_call 29; exact Calls.quiet_of_same (HD.out _)))
  go_wp2_with fail
  go_ret
  exact ⟨rfl, nq, rfl⟩
end Go.Proofs.YthambncffcphkaaDoor
