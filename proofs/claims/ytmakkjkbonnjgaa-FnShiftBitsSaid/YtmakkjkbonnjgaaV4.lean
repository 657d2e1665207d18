/- Words for memory, fourth part: append(v, make([]T, m)...) onto a row without room. -/
import Derived.Test.YtmakkjkbonnjgaaV3
set_option linter.unusedVariables false
set_option linter.unusedSimpArgs false
namespace Go.Proofs.Ytmakkjkbonnjgaa.V
open Go.RowKit
section
variable {P : Program}
theorem run_append_zeros_full (w : World) (base : Nat) (t ti ty e : TypeId) (k : IntKind) (bytes : Nat) (ht : P.underlying t = some (.slice e)) {ki : IntKind} (hti : P.underlying ti = some (.int ki)) (hinfo : (P.info? e).map (fun i => (i.zero, i.size, i.bytes)) = some (some (.int k 0), 1, bytes)) (hb0 : 0 < bytes)
    (g n : Nat) (xs : List Int) (hown : Own w base e k (.slice (some ⟨g, 0, none⟩) n n) xs) (kx : IntKind) (m : Nat) (hbytes : (n + m) * bytes ≤ 140737488355328) :
    ∃ v' w', (Builtin.append_ #[t, ti] ty #[.slice (some ⟨g, 0, none⟩) n n, .int kx m]).run P w = .ok v' w' ∧ Chg NoB w w' := by
  obtain ⟨i, hi, hz, hz1, hby⟩ := info_parts hinfo
  have hnl := own_len hown
  subst hnl
  subst hby
  have hle : xs.length + m ≤ 140737488355328 := Nat.le_trans (Nat.le_mul_of_pos_right _ hb0) hbytes
  have hw : IntKind.i64.wrap (m : Int) = m := by rw [IntKind.wrap_i64]; omega
  have hw0 : IntKind.i64.wrap 0 = 0 := by rw [IntKind.wrap_i64]; rfl
  have hneg : ¬ ((m : Int) < 0) := by omega
  have hmb : m * i.bytes ≤ 140737488355328 := Nat.le_trans (Nat.mul_le_mul_right _ (Nat.le_add_left m xs.length)) hbytes
  have hbig : ¬ (281474976710656 < (m : Int) * (i.bytes : Int)) := by
    rw [← Int.natCast_mul]
    omega
  by_cases hm : m = 0
  · subst hm
    refine ⟨.slice (some ⟨g, 0, none⟩) xs.length xs.length, w, ?_, Chg.refl _ _⟩
    simp [Builtin.append_, run_underlying ht, run_underlying hti, sizeOf, typeInfo, hi, asInt, asIntOf, hw0, storeCells]
  · have hn : ¬ (xs.length + m ≤ xs.length) := by omega
    have h63' : ¬ (9223372036854775807 < ((xs.length : Int) + (m : Int))) := by omega
    have hfit := growslice_fits (by omega : xs.length < xs.length + m) hbytes
    have h48' : ¬ (281474976710656 < Builtin.nextslicecap (xs.length + m) xs.length * i.bytes) := by omega
    have hrd := own_reads hown
    have hfo : (Builtin.firstCells 1 xs.length (.slice (some ⟨g, 0, none⟩) xs.length xs.length)).run P w.drew = .ok (nums k xs).toArray w.drew := by
      have hc : ∀ j u, (nums k xs)[j]? = some u → w.cell? ((⟨g, 0, none⟩ : Addr).add j) = some u := hrd.news rfl
      exact run_firstCells_some (P := P) w.drew 1 xs.length _ xs.length xs.length (nums k xs) (by rw [nums_length, Nat.mul_one]) (by simpa using hc)
    refine ⟨.slice (some ⟨w.heap.size, 0, none⟩) (xs.length + m) (grownCap w (xs.length + m) xs.length e), w.drew.alloc (.cells ((nums k xs).toArray ++ Builtin.zeroCells (Value.int k 0).cells m ++ Builtin.zeroCells (Value.int k 0).cells (grownCap w (xs.length + m) xs.length e - (xs.length + m))) e), ?_, (Chg.refl _ _).drew.alloc _⟩
    · simp [Builtin.append_, run_underlying ht, run_underlying hti, sizeOf, typeInfo, zeroValue, hi, hz, asInt, asIntOf, hw, hneg, hbig, hn, h63', h48', Question.forced, hfo, newRow, grownCap, hm, hz1]
theorem wpList_append_zeros_full {ops : Array Oper} {rest : List Oper} {o : Oper} {a : Act} {Q : Exit → Act → World → Prop} {w : World} (hgd : o.guard = none) (s x : Operand) (t ti : TypeId)
    (ho : o.op = .call { callee := .builtin .append, args := #[s, x], argTypes := #[t, ti] })
    (e : TypeId) (k : IntKind) (bytes : Nat) (ht : P.underlying t = some (.slice e)) {ki : IntKind} (hti : P.underlying ti = some (.int ki)) (hinfo : (P.info? e).map (fun i => (i.zero, i.size, i.bytes)) = some (some (.int k 0), 1, bytes)) (hb0 : 0 < bytes)
    (base g n : Nat) (xs : List Int) (hs : a.eval s = .slice (some ⟨g, 0, none⟩) n n) (hown : Own w base e k (.slice (some ⟨g, 0, none⟩) n n) xs) (kx : IntKind) (m : Nat) (hx : a.eval x = .int kx m) (hbytes : (n + m) * bytes ≤ 140737488355328)
    (h : ∀ v1 w1, Chg NoB w w1 → wpList P ops Q rest (a.put o.dst v1) w1) :
    wpList P ops Q (o :: rest) a w := by
  obtain ⟨v1, w1, hr, h2⟩ := run_append_zeros_full w base t ti o.type e k bytes ht hti hinfo hb0 g n xs hown kx m hbytes
  refine wpList_plain hgd fun K hK => ?_
  unfold Oper.wp execOp
  simp only [ho, resolve, invoke, builtin, Sem.run_bind, Sem.run_pure, Result.andThen_ok, List.map_toArray, List.map_cons, List.map_nil, hs, hx, hr]
  exact hK _ _ (h v1 w1 h2)
end
end Go.Proofs.Ytmakkjkbonnjgaa.V
