/- The steps of append in a region, for operations under a guard. -/
import Derived.Test.YtnhnfhdbbebclaaCuts
import Derived.Test.YtnhnfhdbbebclaaV3
set_option linter.unusedVariables false
set_option linter.unusedSimpArgs false
namespace Go.Proofs.Ytnhnfhdbbebclaa.V
open Go.RowKit
section
variable {P : Program}
theorem step_append_e_w {ops : Array Oper} {o : Oper} {a : Act} {K : Act → World → Prop} {Q : Exit → Act → World → Prop} {E : Prop} {w : World} {N : Tmp} (_hd : o.dst = some N) (hw : Region.wanted o (yielded ops a.tmps) = true) (s x : Operand) (t : TypeId)
    (ho : o.op = .call { callee := .builtin .append, args := #[s, x], argTypes := #[t, t] })
    (e : TypeId) (k : IntKind) (bytes : Nat) (ht : P.underlying t = some (.slice e)) (hinfo : (P.info? e).map (fun i => (i.zero, i.size, i.bytes)) = some (some (.int k 0), 1, bytes)) (hb0 : 0 < bytes)
    (B : Option Addr) (base : Nat) (ys : List Int) (A : Option Addr) (n c : Nat) (hs : a.eval s = .slice B 0 0) (hx : a.eval x = .slice A n c) (hn : n = ys.length) (HR : Rk k w A ys) (hbase : base ≤ w.heap.size) (hl : ys.length * bytes ≤ 140737488355328)
    (h : ∀ v1 w1, Ow w1 base e k v1 ys → Chg NoB w w1 → K (a.put o.dst v1) w1) :
    if Region.wanted o (yielded ops a.tmps) = true then Oper.wp P o a w K Q else E := by
  rw [if_pos hw]
  obtain ⟨v1, w1, hr, h2, h3⟩ := run_append_e w base t o.type e k bytes ht hinfo hb0 B ys A n c hn HR hbase hl
  unfold Oper.wp execOp
  simp only [ho, resolve, invoke, builtin, Sem.run_bind, Sem.run_pure, Result.andThen_ok, List.map_toArray, List.map_cons, List.map_nil, hs, hx, hr]
  exact h v1 w1 h2 h3
theorem step_append_ow_w {ops : Array Oper} {o : Oper} {a : Act} {K : Act → World → Prop} {Q : Exit → Act → World → Prop} {E : Prop} {w : World} {N : Tmp} (_hd : o.dst = some N) (hw : Region.wanted o (yielded ops a.tmps) = true) (s x : Operand) (t : TypeId)
    (ho : o.op = .call { callee := .builtin .append, args := #[s, x], argTypes := #[t, t] })
    (e : TypeId) (k : IntKind) (bytes : Nat) (ht : P.underlying t = some (.slice e)) (hinfo : (P.info? e).map (fun i => (i.zero, i.size, i.bytes)) = some (some (.int k 0), 1, bytes)) (hb0 : 0 < bytes)
    (v : Value) (base : Nat) (xs ys : List Int) (A : Option Addr) (n c : Nat) (hs : a.eval s = v) (hx : a.eval x = .slice A n c) (hn : n = ys.length) (HO : Ow w base e k v xs) (HR : Rk k w A ys) (hbase : base ≤ w.heap.size) (hl : (xs.length + ys.length) * bytes ≤ 140737488355328)
    (h : ∀ v1 w1, Ow w1 base e k v1 (xs ++ ys) → Chg (OvS base v) w w1 → K (a.put o.dst v1) w1) :
    if Region.wanted o (yielded ops a.tmps) = true then Oper.wp P o a w K Q else E := by
  rw [if_pos hw]
  obtain ⟨v1, w1, hr, h2, h3⟩ := run_append_ow w base t o.type e k bytes ht hinfo hb0 v xs ys A n c hn HO HR hbase hl
  unfold Oper.wp execOp
  simp only [ho, resolve, invoke, builtin, Sem.run_bind, Sem.run_pure, Result.andThen_ok, List.map_toArray, List.map_cons, List.map_nil, hs, hx, hr]
  exact h v1 w1 h2 h3
end
theorem sub2_int {m n : Nat} (h : m + 2 = n) : (n : Int) - 2 = (m : Int) := by omega
theorem lens_at {l1 l2 : List (List Int)} (h : l1.map List.length = l2.map List.length) (j : Nat) (h1 : j < l1.length) (h2 : j < l2.length) : l1[j].length = l2[j].length := by
  have := congrArg (fun l => l[j]?) h
  simpa [List.getElem?_eq_getElem h1, List.getElem?_eq_getElem h2] using this
end Go.Proofs.Ytnhnfhdbbebclaa.V
