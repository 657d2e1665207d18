/- Words for memory, fifth part: append(v, make([]T, m)...) onto any row of the call's own that is not empty. -/
import Derived.Test.YtlpningplmbnhaaDoorV3
set_option linter.unusedVariables false
set_option linter.unusedSimpArgs false
namespace Go.Proofs.YtlpningplmbnhaaDoor.V
open Go.RowKit
theorem toList_zeroCells (k : IntKind) (m : Nat) : (Builtin.zeroCells (Value.int k 0).cells m).toList = nums k (List.replicate m 0) := by
  have hc : (Value.int k 0).cells = #[.int k 0] := rfl
  rw [hc]
  apply List.ext_getElem?
  intro i
  by_cases hi : i < m
  · simp [Builtin.zeroCells, nums, hi, Nat.mod_one]
  · rw [List.getElem?_eq_none (by simp [Builtin.zeroCells]; omega), List.getElem?_eq_none (by simp [nums]; omega)]
section
variable {P : Program}
theorem run_append_zeros (w : World) (base : Nat) (t ti ty e : TypeId) (k : IntKind) (bytes : Nat) (ht : P.underlying t = some (.slice e)) {ki : IntKind} (hti : P.underlying ti = some (.int ki)) (hinfo : (P.info? e).map (fun i => (i.zero, i.size, i.bytes)) = some (some (.int k 0), 1, bytes)) (hb0 : 0 < bytes)
    (g n c : Nat) (xs : List Int) (hown : Own w base e k (.slice (some ⟨g, 0, none⟩) n c) xs) (kx : IntKind) (m : Nat) (hbase : base ≤ w.heap.size) (hbytes : (n + m) * bytes ≤ 140737488355328) :
    ∃ v' w', (Builtin.append_ #[t, ti] ty #[.slice (some ⟨g, 0, none⟩) n c, .int kx m]).run P w = .ok v' w' ∧ Own w' base e k v' (xs ++ List.replicate m 0) ∧ Chg (OvS base (.slice (some ⟨g, 0, none⟩) n c)) w w' := by
  obtain ⟨i, hi, hz, hz1, hby⟩ := info_parts hinfo
  have hnl := own_len hown
  subst hnl
  subst hby
  have hle : xs.length + m ≤ 140737488355328 := Nat.le_trans (Nat.le_mul_of_pos_right _ hb0) hbytes
  have hw : IntKind.i64.wrap (m : Int) = m := by rw [IntKind.wrap_i64]; omega
  have hneg : ¬ ((m : Int) < 0) := by omega
  have hmb : m * i.bytes ≤ 140737488355328 := Nat.le_trans (Nat.mul_le_mul_right _ (Nat.le_add_left m xs.length)) hbytes
  have hbig : ¬ (281474976710656 < (m : Int) * (i.bytes : Int)) := by
    rw [← Int.natCast_mul]
    omega
  have happ : ∀ W : World, Sem.run P (if m * i.size = 0 then pure #[] else do pure (Builtin.zeroCells (← zeroValue e).cells m) : Sem (Array Value)) W = .ok (Builtin.zeroCells (Value.int k 0).cells m) W := fun W => by
    by_cases h : m = 0
    · subst h; simp [Builtin.zeroCells]
    · simp [hz1, h, zeroValue, typeInfo, hi, hz]
  have hlz : (Builtin.zeroCells (Value.int k 0).cells m).toList = nums k (List.replicate m 0) := toList_zeroCells k m
  rcases hown.2 with ⟨h', _⟩ | ⟨g', cap', cur, h', hb, hg, hnc, hcm, hcs, htake⟩
  · simp at h'
  · simp only [Value.slice.injEq, Option.some.injEq, Addr.mk.injEq, and_true, true_and] at h'
    obtain ⟨rfl, rfl⟩ := h'
    have hcs' : cur.size = c := by simpa using hcs
    have htk : cur.toList.take xs.length = nums k xs := by simpa using htake
    by_cases hroom : xs.length + m ≤ c
    · have hst := run_storeCells_at P g xs.length e (nums k (List.replicate m 0)) 0 cur w hg (by simp [nums]; omega) (nums_one _ _)
      have hadd : (⟨g, 0, none⟩ : Addr).add xs.length = ⟨g, xs.length, none⟩ := add_lit0 _ _
      refine ⟨.slice (some ⟨g, 0, none⟩) (xs.length + m) c, w.setRow g (cur.toList.take (xs.length + 0) ++ nums k (List.replicate m 0) ++ cur.toList.drop (xs.length + 0 + (nums k (List.replicate m 0)).length)).toArray, ?_, ?_, ?_⟩
      · simp [Builtin.append_, run_underlying ht, run_underlying hti, sizeOf, typeInfo, hi, asInt, asIntOf, hw, hneg, hbig, hroom, hz1]
        have h2 := happ w
        rw [hz1, Nat.mul_one] at h2
        rw [hadd]
        by_cases h : m = 0
        · subst h
          simp [nums] at hst ⊢
          rw [hst]
          rfl
        · simp [h, zeroValue, typeInfo, hi, hz, hlz]
          rw [hst]
          simp
      · have hl2 : (nums k (List.replicate m 0)).length = m := by simp [nums]
        refine ⟨by simp [nums], .inr ⟨g, c, _, ?_, hb, setRow_heap w g cur _ e _ hg, ?_, hcm, ?_, ?_⟩⟩
        · simp
        · simp; omega
        · simp only [List.size_toArray, List.length_append, List.length_take, List.length_drop, Array.length_toList, hl2]
          omega
        · rw [Nat.mul_one, List.length_append, List.length_replicate, Nat.add_zero, nums_append, htk]
          have hl3 : (nums k xs ++ nums k (List.replicate m 0)).length = xs.length + m := by simp [nums]
          rw [← hl3]
          exact List.take_left
      · refine (Chg.refl _ w).trans (S' := fun b => b = g) ⟨rfl, rfl, rfl, by simp [World.setRow], fun q _ hq => setRow_other w g q _ hq⟩ (fun b hb' e => ⟨by rw [e]; exact hb, by rw [e]; rfl⟩)
    · have hm : m ≠ 0 := by omega
      have h63' : ¬ (9223372036854775807 < ((xs.length : Int) + (m : Int))) := by omega
      have hfit := growslice_fits (by omega : c < xs.length + m) hbytes
      have h48' : ¬ (281474976710656 < Builtin.nextslicecap (xs.length + m) c * i.bytes) := by omega
      have hrd := own_reads hown
      have hfo : (Builtin.firstCells 1 xs.length (.slice (some ⟨g, 0, none⟩) xs.length c)).run P w.drew = .ok (nums k xs).toArray w.drew := by
        have hc : ∀ j u, (nums k xs)[j]? = some u → w.cell? ((⟨g, 0, none⟩ : Addr).add j) = some u := hrd.news rfl
        exact run_firstCells_some (P := P) w.drew 1 xs.length _ xs.length c (nums k xs) (by rw [nums_length, Nat.mul_one]) (by simpa using hc)
      refine ⟨.slice (some ⟨w.heap.size, 0, none⟩) (xs.length + m) (grownCap w (xs.length + m) c e), w.drew.alloc (.cells ((nums k xs).toArray ++ Builtin.zeroCells (Value.int k 0).cells m ++ Builtin.zeroCells (Value.int k 0).cells (grownCap w (xs.length + m) c e - (xs.length + m))) e), ?_, ?_, (Chg.refl _ _).drew.alloc _⟩
      · simp [Builtin.append_, run_underlying ht, run_underlying hti, sizeOf, typeInfo, zeroValue, hi, hz, asInt, asIntOf, hw, hneg, hbig, hroom, h63', h48', Question.forced, hfo, newRow, grownCap, hm, hz1]
      · have hge := grownCap_ge w (xs.length + m) c e
        have hcm2 : grownCap w (xs.length + m) c e ≤ maxLen := grownCap_le_maxLen w _ c e (by simp only [maxLen]; omega)
        refine ⟨by simp [nums], .inr ⟨w.heap.size, _, _, by simp, hbase, heap_alloc_new w.drew _, by simp; omega, hcm2, ?_, ?_⟩⟩
        · simp only [Array.size_append, List.size_toArray, size_zeroCells, nums_length, Value.cells]
          simp
          omega
        · rw [Nat.mul_one, Array.toList_append, Array.toList_append, hlz, nums_append]
          simp only [List.length_append, List.length_replicate]
          have hl3 : (nums k xs ++ nums k (List.replicate m 0)).length = xs.length + m := by simp [nums]
          rw [← hl3]
          exact List.take_left
theorem wpList_append_zeros {ops : Array Oper} {rest : List Oper} {o : Oper} {a : Act} {Q : Exit → Act → World → Prop} {w : World} (hgd : o.guard = none) (s x : Operand) (t ti : TypeId)
    (ho : o.op = .call { callee := .builtin .append, args := #[s, x], argTypes := #[t, ti] })
    (e : TypeId) (k : IntKind) (bytes : Nat) (ht : P.underlying t = some (.slice e)) {ki : IntKind} (hti : P.underlying ti = some (.int ki)) (hinfo : (P.info? e).map (fun i => (i.zero, i.size, i.bytes)) = some (some (.int k 0), 1, bytes)) (hb0 : 0 < bytes)
    (base g n c : Nat) (xs : List Int) (hs : a.eval s = .slice (some ⟨g, 0, none⟩) n c) (hown : Own w base e k (.slice (some ⟨g, 0, none⟩) n c) xs) (kx : IntKind) (m : Nat) (hx : a.eval x = .int kx m) (hbase : base ≤ w.heap.size) (hbytes : (n + m) * bytes ≤ 140737488355328)
    (h : ∀ v1 w1, Own w1 base e k v1 (xs ++ List.replicate m 0) → Chg (OvS base (.slice (some ⟨g, 0, none⟩) n c)) w w1 → wpList P ops Q rest (a.put o.dst v1) w1) :
    wpList P ops Q (o :: rest) a w := by
  obtain ⟨v1, w1, hr, h1, h2⟩ := run_append_zeros w base t ti o.type e k bytes ht hti hinfo hb0 g n c xs hown kx m hbase hbytes
  refine wpList_plain hgd fun K hK => ?_
  unfold Oper.wp execOp
  simp only [ho, resolve, invoke, builtin, Sem.run_bind, Sem.run_pure, Result.andThen_ok, List.map_toArray, List.map_cons, List.map_nil, hs, hx, hr]
  exact hK _ _ (h v1 w1 h1 h2)
end
end Go.Proofs.YtlpningplmbnhaaDoor.V
