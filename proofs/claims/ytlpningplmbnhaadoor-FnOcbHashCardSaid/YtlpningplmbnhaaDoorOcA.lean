/- append onto any slice that reads, where there is no room: a new row. -/
import Derived.Test.YtlpningplmbnhaaDoorV5
set_option linter.unusedVariables false
set_option linter.unusedSimpArgs false
namespace Go.Proofs.YtlpningplmbnhaaDoor.V
open Go.RowKit
section
variable {P : Program}
theorem run_append_full (w : World) (base : Nat) (t ty e : TypeId) (k : IntKind) (bytes : Nat) (ht : P.underlying t = some (.slice e)) (hinfo : (P.info? e).map (fun i => (i.zero, i.size, i.bytes)) = some (some (.int k 0), 1, bytes)) (hb0 : 0 < bytes)
    (ad : Addr) (n cap : Nat) (xs : List Int) (hn : n = xs.length) (HX : Rk k w (some ad) xs) (ys : List Int) (A : Option Addr) (m c : Nat) (hm : m = ys.length) (HR : Rk k w A ys) (hg : cap < n + m) (h0 : 0 < m) (hbase : base ≤ w.heap.size) (hl : (n + m) * bytes ≤ 140737488355328) :
    ∃ v1 w1, (Builtin.append_ #[t, t] ty #[.slice (some ad) n cap, .slice A m c]).run P w = .ok v1 w1 ∧ Own w1 base e k v1 (xs ++ ys) ∧ Chg NoB w w1 := by
  subst hn
  subst hm
  obtain ⟨i0, hi, hz0, hz1, hz2⟩ := info_parts hinfo
  obtain ⟨a2, rfl, _, _⟩ := HR.2 h0
  have hlen : xs.length + ys.length ≤ 140737488355328 := Nat.le_trans (Nat.le_mul_of_pos_right _ hb0) hl
  have hr := run_append_grow (P := P) w t ty e i0 (.int k 0) ht hi hz0 ad xs.length cap (nums k xs) (by simp [nums, hz1]) (HX.news rfl) a2 ys.length c (nums k ys) (by simp [nums, hz1]) (HR.news rfl) hg (by omega)
    (growslice_fits hg (by rw [hz2]; exact hl))
  refine ⟨_, _, hr, ?_, (Chg.refl _ _).drew.alloc _⟩
  have hge := grownCap_ge w (xs.length + ys.length) cap e
  have hcm : grownCap w (xs.length + ys.length) cap e ≤ maxLen := grownCap_le_maxLen w _ cap e (by simp only [maxLen]; omega)
  unfold Own
  rw [List.length_append, nums_append]
  refine ⟨by simp [nums], .inr ⟨w.heap.size, _, _, rfl, hbase, heap_alloc_new w.drew _, hge, hcm, ?_, ?_⟩⟩
  · simp only [Array.size_append, List.size_toArray, size_zeroCells, nums_length, Value.cells]
    simp
    omega
  · rw [Nat.mul_one, Array.toList_append, Array.toList_append]
    rw [show (nums k xs).toArray.toList ++ (nums k ys).toArray.toList = nums k xs ++ nums k ys from rfl]
    have e1 : (nums k xs ++ nums k ys).length = xs.length + ys.length := by rw [List.length_append, nums_length, nums_length]
    rw [← e1]
    exact List.take_left
theorem wpList_append_full {ops : Array Oper} {rest : List Oper} {o : Oper} {a : Act} {Q : Exit → Act → World → Prop} {w : World} (hgd : o.guard = none) (s x : Operand) (t : TypeId)
    (ho : o.op = .call { callee := .builtin .append, args := #[s, x], argTypes := #[t, t] })
    (e : TypeId) (k : IntKind) (bytes : Nat) (ht : P.underlying t = some (.slice e)) (hinfo : (P.info? e).map (fun i => (i.zero, i.size, i.bytes)) = some (some (.int k 0), 1, bytes)) (hb0 : 0 < bytes)
    (base : Nat) (ad : Addr) (n cap : Nat) (xs ys : List Int) (A : Option Addr) (m c : Nat) (hs : a.eval s = .slice (some ad) n cap) (hx : a.eval x = .slice A m c) (hn : n = xs.length) (HX : Rk k w (some ad) xs) (hm : m = ys.length) (HR : Rk k w A ys) (hg : cap < n + m) (h0 : 0 < m) (hbase : base ≤ w.heap.size) (hl : (n + m) * bytes ≤ 140737488355328)
    (h : ∀ v1 w1, Own w1 base e k v1 (xs ++ ys) → Chg NoB w w1 → wpList P ops Q rest (a.put o.dst v1) w1) :
    wpList P ops Q (o :: rest) a w := by
  obtain ⟨v1, w1, hr, h2, h3⟩ := run_append_full w base t o.type e k bytes ht hinfo hb0 ad n cap xs hn HX ys A m c hm HR hg h0 hbase hl
  refine wpList_plain hgd fun K hK => ?_
  unfold Oper.wp execOp
  simp only [ho, resolve, invoke, builtin, Sem.run_bind, Sem.run_pure, Result.andThen_ok, List.map_toArray, List.map_cons, List.map_nil, hs, hx, hr]
  exact hK _ _ (h v1 w1 h2 h3)
end
/-- A window of a row that is spliced. -/
theorem splice_window {zs ys : List Int} {a m : Nat} (hm : ys.length = m) (h : a + m ≤ zs.length) : ((splice zs a ys).drop a).take m = ys := by
  have hl : (List.take a zs).length = a := by rw [List.length_take]; omega
  unfold splice
  rw [List.drop_append_of_le_length (by omega), List.drop_of_length_le (by omega), List.nil_append, List.take_append_of_le_length (by omega), List.take_of_length_le (by omega)]
theorem splice_behind {zs ys : List Int} {a m : Nat} (hm : ys.length = m) (h : a + m ≤ zs.length) : (splice zs a ys).drop (a + m) = zs.drop (a + m) := by
  have hl : (List.take a zs ++ ys).length = a + m := by rw [List.length_append, List.length_take]; omega
  unfold splice
  rw [← List.append_assoc, List.drop_append_of_le_length (by omega), List.drop_of_length_le (by omega), List.nil_append, hm]
theorem splice_byt {zs ys : List Int} (h : Byt zs) (h' : Byt ys) (a : Nat) : Byt (splice zs a ys) := by
  unfold splice
  exact (h.take _).append (h'.append (h.drop _))
end Go.Proofs.YtlpningplmbnhaaDoor.V
