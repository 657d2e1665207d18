/- Words for memory, third part: an empty slice is a row too; append as one step of a region that draws; rows whose spare cells are known. -/
import Derived.Test.YthnebljgnmggaaaDoorV2
import Derived.Deep.RegionLaw
set_option linter.unusedVariables false
set_option linter.unusedSimpArgs false
namespace Go.Proofs.YthnebljgnmggaaaDoor.V
open Go.RowKit

/-- A row of the call's own, or an empty slice without capacity, wherever it points. -/
def Ow (w : World) (base : Nat) (e : TypeId) (k : IntKind) (v : Value) (xs : List Int) : Prop := Own w base e k v xs ∨ (xs = [] ∧ ∃ A, v = .slice A 0 0)
theorem ow_of {w : World} {base : Nat} {e : TypeId} {k : IntKind} {v : Value} {xs : List Int} (h : Own w base e k v xs) : Ow w base e k v xs := .inl h
theorem ow_empty (w : World) (base : Nat) (e : TypeId) (k : IntKind) (A : Option Addr) : Ow w base e k (.slice A 0 0) [] := .inr ⟨rfl, A, rfl⟩
theorem ow_form {w : World} {base : Nat} {e : TypeId} {k : IntKind} {v : Value} {xs : List Int} (h : Ow w base e k v xs) : ∃ A c, v = .slice A xs.length c ∧ xs.length ≤ c ∧ Rk k w A xs := by
  rcases h with h | ⟨rfl, A, rfl⟩
  · obtain ⟨A, c, h1, h2, h3, _⟩ := own_form h
    exact ⟨A, c, h1, h2, h3⟩
  · exact ⟨A, 0, rfl, by simp, by simp, fun hp => absurd hp (by simp)⟩
theorem ow_chg {w w' : World} {S : Nat → Prop} {base : Nat} {e : TypeId} {k : IntKind} {v : Value} {xs : List Int} (h : Ow w base e k v xs) (hc : Chg S w w') (hs : ∀ b, v.ownBlock = some b → base ≤ b → ¬ S b) : Ow w' base e k v xs := by
  rcases h with h | h
  · exact .inl (own_chg h hc (fun b hb => hs b hb (own_block_lt h b hb).1))
  · exact .inr h
theorem ow_keep {w w' : World} {base : Nat} {e : TypeId} {k : IntKind} {v : Value} {xs : List Int} (h : Ow w base e k v xs) (hc : Chg NoB w w') : Ow w' base e k v xs := ow_chg h hc (fun _ _ _ e => e)
theorem ow_lower {w : World} {base base' : Nat} {e : TypeId} {k : IntKind} {v : Value} {xs : List Int} (h : Ow w base e k v xs) (hb : base' ≤ base) : Ow w base' e k v xs := by
  rcases h with h | h
  · exact .inl (own_lower h hb)
  · exact .inr h
theorem ow_lt {w : World} {base : Nat} {e : TypeId} {k : IntKind} {v : Value} {xs : List Int} (h : Ow w base e k v xs) (hp : xs ≠ []) : ∀ b, v.ownBlock = some b → base ≤ b ∧ b < w.heap.size := by
  rcases h with h | ⟨h, _⟩
  · exact own_block_lt h
  · exact absurd h hp
theorem ow_own {w : World} {base : Nat} {e : TypeId} {k : IntKind} {v : Value} {xs : List Int} (h : Ow w base e k v xs) (hp : 0 < xs.length) : Own w base e k v xs := by
  rcases h with h | ⟨rfl, _⟩
  · exact h
  · simp at hp
/-- The block of a row that is not empty. -/
theorem ow_block {w : World} {base n c : Nat} {A : Option Addr} {e : TypeId} {k : IntKind} {xs : List Int} (h : Ow w base e k (.slice A n c) xs) (hp : 0 < xs.length) : ∃ g, A = some ⟨g, 0, none⟩ ∧ base ≤ g ∧ g < w.heap.size := by
  obtain ⟨g, c', e', _, hb, hlt⟩ := own_form_pos (ow_own h hp) hp
  injection e' with e1
  exact ⟨g, e1, hb, hlt⟩
/-- The blocks that an append onto v may turn. -/
def OvS (base : Nat) (v : Value) : Nat → Prop := fun b => base ≤ b ∧ v.ownBlock = some b
theorem Chg.over {w w1 w2 : World} {v : Value} {base : Nat} (h : Chg NoB w w1) (k : Chg (OvS base v) w1 w2) (hb : w.heap.size ≤ base) : Chg NoB w w2 :=
  h.trans k (fun i hi e => by have := e.1; omega)

section
variable {P : Program}
theorem run_append_ow (w : World) (base : Nat) (t ty e : TypeId) (k : IntKind) (bytes : Nat) (ht : P.underlying t = some (.slice e)) (hinfo : (P.info? e).map (fun i => (i.zero, i.size, i.bytes)) = some (some (.int k 0), 1, bytes)) (hb0 : 0 < bytes)
    (v : Value) (xs ys : List Int) (A : Option Addr) (n c : Nat) (hn : n = ys.length) (HO : Ow w base e k v xs) (HR : Rk k w A ys) (hbase : base ≤ w.heap.size) (hl : (xs.length + ys.length) * bytes ≤ 140737488355328) :
    ∃ v1 w1, (Builtin.append_ #[t, t] ty #[v, .slice A n c]).run P w = .ok v1 w1 ∧ Ow w1 base e k v1 (xs ++ ys) ∧ Chg (OvS base v) w w1 := by
  subst hn
  have own : Own w base e k v xs → ∃ v1 w1, (Builtin.append_ #[t, t] ty #[v, .slice A ys.length c]).run P w = .ok v1 w1 ∧ Ow w1 base e k v1 (xs ++ ys) ∧ Chg (OvS base v) w w1 := fun h => by
    obtain ⟨v1, w1, h1, h2, h3, _⟩ := run_append_rk w base t ty e k bytes ht hinfo hb0 v xs ys A c h HR hbase hl
    exact ⟨v1, w1, h1, .inl h2, (Chg.refl _ _).grown h3 (fun b hb e => ⟨(own_block_lt h b e).1, e⟩)⟩
  rcases HO with h | ⟨rfl, B, rfl⟩
  · exact own h
  · rcases B with _ | b
    · exact own (own_nil w base e k)
    · obtain ⟨i0, hi, hz0, hz1, hz2⟩ := info_parts hinfo
      rcases Nat.eq_zero_or_pos ys.length with h0 | h0
      · have hy : ys = [] := List.eq_nil_of_length_eq_zero h0
        subst hy
        refine ⟨_, w, ?_, .inr ⟨rfl, some b, rfl⟩, Chg.refl _ _⟩
        cases A <;> simp [Builtin.append_, run_underlying ht, sizeOf, typeInfo, hi, Builtin.lenOf, Builtin.firstCells, loadCells, loadCellsFrom, storeCells]
      · obtain ⟨ad, rfl, _, _⟩ := HR.2 h0
        have hlen : ys.length ≤ 140737488355328 := by
          have h3 : ys.length ≤ ys.length * bytes := Nat.le_mul_of_pos_right _ hb0
          simp only [List.length_nil, Nat.zero_add] at hl
          omega
        have hbl : ys.length * bytes ≤ 140737488355328 := by simpa using hl
        have hr := run_append_grow (P := P) w t ty e i0 (.int k 0) ht hi hz0 b 0 0 [] (by simp) (fun j v h => by simp at h) ad ys.length c (nums k ys) (by simp [nums, hz1]) (HR.news rfl) (by omega) (by omega)
          (by rw [Nat.zero_add, nextslicecap_zero h0, hz2]; omega)
        refine ⟨_, _, hr, .inl ?_, (Chg.refl _ _).drew.alloc _⟩
        have hge := grownCap_ge w (0 + ys.length) 0 e
        have hcm : grownCap w (0 + ys.length) 0 e ≤ maxLen := grownCap_le_maxLen w _ 0 e (by simp only [maxLen]; omega)
        simp only [Nat.zero_add, List.nil_append] at hge hcm ⊢
        refine ⟨by simp [nums], .inr ⟨w.heap.size, _, _, rfl, hbase, heap_alloc_new w.drew _, hge, hcm, ?_, ?_⟩⟩
        · simp only [Array.size_append, List.size_toArray, size_zeroCells, nums_length, Value.cells]
          simp
          omega
        · rw [Nat.mul_one, Array.toList_append, Array.toList_append]
          simp only [List.nil_append]
          have e1 : (nums k ys).length = ys.length := nums_length _ _
          rw [show ((nums k ys).toArray.toList ++ (Builtin.zeroCells (Value.int k 0).cells (grownCap w ys.length 0 e - ys.length)).toList) = nums k ys ++ (Builtin.zeroCells (Value.int k 0).cells (grownCap w ys.length 0 e - ys.length)).toList from by simp]
          rw [← e1]
          exact List.take_left
theorem wpList_append_ow {ops : Array Oper} {rest : List Oper} {o : Oper} {a : Act} {Q : Exit → Act → World → Prop} {w : World} (hgd : o.guard = none) (s x : Operand) (t : TypeId)
    (ho : o.op = .call { callee := .builtin .append, args := #[s, x], argTypes := #[t, t] })
    (e : TypeId) (k : IntKind) (bytes : Nat) (ht : P.underlying t = some (.slice e)) (hinfo : (P.info? e).map (fun i => (i.zero, i.size, i.bytes)) = some (some (.int k 0), 1, bytes)) (hb0 : 0 < bytes)
    (v : Value) (base : Nat) (xs ys : List Int) (A : Option Addr) (n c : Nat) (hs : a.eval s = v) (hx : a.eval x = .slice A n c) (hn : n = ys.length) (HO : Ow w base e k v xs) (HR : Rk k w A ys) (hbase : base ≤ w.heap.size) (hl : (xs.length + ys.length) * bytes ≤ 140737488355328)
    (h : ∀ v1 w1, Ow w1 base e k v1 (xs ++ ys) → Chg (OvS base v) w w1 → wpList P ops Q rest (a.put o.dst v1) w1) :
    wpList P ops Q (o :: rest) a w := by
  obtain ⟨v1, w1, hr, h2, h3⟩ := run_append_ow w base t o.type e k bytes ht hinfo hb0 v xs ys A n c hn HO HR hbase hl
  refine wpList_plain hgd fun K hK => ?_
  unfold Oper.wp execOp
  simp only [ho, resolve, invoke, builtin, Sem.run_bind, Sem.run_pure, Result.andThen_ok, List.map_toArray, List.map_cons, List.map_nil, hs, hx, hr]
  exact hK _ _ (h v1 w1 h2 h3)
theorem step_append_ow {ops : Array Oper} {o : Oper} {a : Act} {K : Act → World → Prop} {Q : Exit → Act → World → Prop} {E : Prop} {w : World} {N : Tmp} (_hd : o.dst = some N) (hgd : o.guard = none) (s x : Operand) (t : TypeId)
    (ho : o.op = .call { callee := .builtin .append, args := #[s, x], argTypes := #[t, t] })
    (e : TypeId) (k : IntKind) (bytes : Nat) (ht : P.underlying t = some (.slice e)) (hinfo : (P.info? e).map (fun i => (i.zero, i.size, i.bytes)) = some (some (.int k 0), 1, bytes)) (hb0 : 0 < bytes)
    (v : Value) (base : Nat) (xs ys : List Int) (A : Option Addr) (n c : Nat) (hs : a.eval s = v) (hx : a.eval x = .slice A n c) (hn : n = ys.length) (HO : Ow w base e k v xs) (HR : Rk k w A ys) (hbase : base ≤ w.heap.size) (hl : (xs.length + ys.length) * bytes ≤ 140737488355328)
    (h : ∀ v1 w1, Ow w1 base e k v1 (xs ++ ys) → Chg (OvS base v) w w1 → K (a.put o.dst v1) w1) :
    if Region.wanted o (yielded ops a.tmps) = true then Oper.wp P o a w K Q else E := by
  have hw : Region.wanted o (yielded ops a.tmps) = true := by simp [Region.wanted, hgd]
  rw [if_pos hw]
  obtain ⟨v1, w1, hr, h2, h3⟩ := run_append_ow w base t o.type e k bytes ht hinfo hb0 v xs ys A n c hn HO HR hbase hl
  unfold Oper.wp execOp
  simp only [ho, resolve, invoke, builtin, Sem.run_bind, Sem.run_pure, Result.andThen_ok, List.map_toArray, List.map_cons, List.map_nil, hs, hx, hr]
  exact h v1 w1 h2 h3

/-- append onto an empty slice without capacity: a new row always. -/
theorem run_append_e (w : World) (base : Nat) (t ty e : TypeId) (k : IntKind) (bytes : Nat) (ht : P.underlying t = some (.slice e)) (hinfo : (P.info? e).map (fun i => (i.zero, i.size, i.bytes)) = some (some (.int k 0), 1, bytes)) (hb0 : 0 < bytes)
    (B : Option Addr) (ys : List Int) (A : Option Addr) (n c : Nat) (hn : n = ys.length) (HR : Rk k w A ys) (hbase : base ≤ w.heap.size) (hl : ys.length * bytes ≤ 140737488355328) :
    ∃ v1 w1, (Builtin.append_ #[t, t] ty #[.slice B 0 0, .slice A n c]).run P w = .ok v1 w1 ∧ Ow w1 base e k v1 ys ∧ Chg NoB w w1 := by
  rcases B with _ | b
  · subst hn
    obtain ⟨v1, w1, h1, h2, h3, _⟩ := run_append_rk w base t ty e k bytes ht hinfo hb0 (.slice none 0 0) [] ys A c (own_nil w base e k) HR hbase (by simpa using hl)
    exact ⟨v1, w1, h1, .inl (by simpa using h2), (Chg.refl _ _).grown h3 (fun b hb e => by cases e)⟩
  · subst hn
    obtain ⟨v1, w1, h1, h2, h3⟩ := run_append_ow w base t ty e k bytes ht hinfo hb0 (.slice (some b) 0 0) [] ys A ys.length c rfl (ow_empty _ _ _ _ _) HR hbase (by simpa using hl)
    rw [List.nil_append] at h2
    refine ⟨v1, w1, h1, h2, ?_⟩
    obtain ⟨i0, hi, hz0, hz1, hz2⟩ := info_parts hinfo
    rcases Nat.eq_zero_or_pos ys.length with h0 | h0
    · have hy : ys = [] := List.eq_nil_of_length_eq_zero h0
      subst hy
      have e1 : (Builtin.append_ #[t, t] ty #[.slice (some b) 0 0, .slice A 0 c]).run P w = .ok (.slice (some b) 0 0) w := by
        cases A <;> simp [Builtin.append_, run_underlying ht, sizeOf, typeInfo, hi, Builtin.lenOf, Builtin.firstCells, loadCells, loadCellsFrom, storeCells]
      rw [show ([] : List Int).length = 0 from rfl, e1] at h1
      injection h1 with _ h1
      subst h1
      exact Chg.refl _ _
    · obtain ⟨ad, rfl, _, _⟩ := HR.2 h0
      have hlen : ys.length ≤ 140737488355328 := by
        have h3 : ys.length ≤ ys.length * bytes := Nat.le_mul_of_pos_right _ hb0
        omega
      have hr := run_append_grow (P := P) w t ty e i0 (.int k 0) ht hi hz0 b 0 0 [] (by simp) (fun j v h => by simp at h) ad ys.length c (nums k ys) (by simp [nums, hz1]) (HR.news rfl) (by omega) (by omega)
        (by rw [Nat.zero_add, nextslicecap_zero h0, hz2]; omega)
      rw [hr] at h1
      injection h1 with _ h1
      subst h1
      exact (Chg.refl _ _).drew.alloc _
theorem wpList_append_e {ops : Array Oper} {rest : List Oper} {o : Oper} {a : Act} {Q : Exit → Act → World → Prop} {w : World} (hgd : o.guard = none) (s x : Operand) (t : TypeId)
    (ho : o.op = .call { callee := .builtin .append, args := #[s, x], argTypes := #[t, t] })
    (e : TypeId) (k : IntKind) (bytes : Nat) (ht : P.underlying t = some (.slice e)) (hinfo : (P.info? e).map (fun i => (i.zero, i.size, i.bytes)) = some (some (.int k 0), 1, bytes)) (hb0 : 0 < bytes)
    (B : Option Addr) (base : Nat) (ys : List Int) (A : Option Addr) (n c : Nat) (hs : a.eval s = .slice B 0 0) (hx : a.eval x = .slice A n c) (hn : n = ys.length) (HR : Rk k w A ys) (hbase : base ≤ w.heap.size) (hl : ys.length * bytes ≤ 140737488355328)
    (h : ∀ v1 w1, Ow w1 base e k v1 ys → Chg NoB w w1 → wpList P ops Q rest (a.put o.dst v1) w1) :
    wpList P ops Q (o :: rest) a w := by
  obtain ⟨v1, w1, hr, h2, h3⟩ := run_append_e w base t o.type e k bytes ht hinfo hb0 B ys A n c hn HR hbase hl
  refine wpList_plain hgd fun K hK => ?_
  unfold Oper.wp execOp
  simp only [ho, resolve, invoke, builtin, Sem.run_bind, Sem.run_pure, Result.andThen_ok, List.map_toArray, List.map_cons, List.map_nil, hs, hx, hr]
  exact hK _ _ (h v1 w1 h2 h3)
theorem step_append_e {ops : Array Oper} {o : Oper} {a : Act} {K : Act → World → Prop} {Q : Exit → Act → World → Prop} {E : Prop} {w : World} {N : Tmp} (_hd : o.dst = some N) (hgd : o.guard = none) (s x : Operand) (t : TypeId)
    (ho : o.op = .call { callee := .builtin .append, args := #[s, x], argTypes := #[t, t] })
    (e : TypeId) (k : IntKind) (bytes : Nat) (ht : P.underlying t = some (.slice e)) (hinfo : (P.info? e).map (fun i => (i.zero, i.size, i.bytes)) = some (some (.int k 0), 1, bytes)) (hb0 : 0 < bytes)
    (B : Option Addr) (base : Nat) (ys : List Int) (A : Option Addr) (n c : Nat) (hs : a.eval s = .slice B 0 0) (hx : a.eval x = .slice A n c) (hn : n = ys.length) (HR : Rk k w A ys) (hbase : base ≤ w.heap.size) (hl : ys.length * bytes ≤ 140737488355328)
    (h : ∀ v1 w1, Ow w1 base e k v1 ys → Chg NoB w w1 → K (a.put o.dst v1) w1) :
    if Region.wanted o (yielded ops a.tmps) = true then Oper.wp P o a w K Q else E := by
  have hw : Region.wanted o (yielded ops a.tmps) = true := by simp [Region.wanted, hgd]
  rw [if_pos hw]
  obtain ⟨v1, w1, hr, h2, h3⟩ := run_append_e w base t o.type e k bytes ht hinfo hb0 B ys A n c hn HR hbase hl
  unfold Oper.wp execOp
  simp only [ho, resolve, invoke, builtin, Sem.run_bind, Sem.run_pure, Result.andThen_ok, List.map_toArray, List.map_cons, List.map_nil, hs, hx, hr]
  exact h v1 w1 h2 h3

/-- append onto a row whose block is known whole, where there is room. -/
theorem run_append_room_blk (w : World) (t ty e : TypeId) (k : IntKind) (bytes : Nat) (ht : P.underlying t = some (.slice e)) (hinfo : (P.info? e).map (fun i => (i.zero, i.size, i.bytes)) = some (some (.int k 0), 1, bytes))
    (g n cap : Nat) (full : List Int) (hg : Blk w g e (nums k full)) (hcap : cap ≤ full.length) (ys : List Int) (A : Option Addr) (m c : Nat) (hm : m = ys.length) (HR : Rk k w A ys) (hroom : n + ys.length ≤ cap) :
    ∃ w1, (Builtin.append_ #[t, t] ty #[.slice (some ⟨g, 0, none⟩) n cap, .slice A m c]).run P w = .ok (.slice (some ⟨g, 0, none⟩) (n + m) cap) w1 ∧ Blk w1 g e (nums k (splice full n ys)) ∧ Chg (fun b => b = g) w w1 := by
  subst hm
  obtain ⟨i0, hi, hz0, hz1, hz2⟩ := info_parts hinfo
  rcases Nat.eq_zero_or_pos ys.length with h0 | h0
  · have hy : ys = [] := List.eq_nil_of_length_eq_zero h0
    subst hy
    refine ⟨w, ?_, by simpa [splice] using hg, Chg.refl _ _⟩
    have hle : n ≤ cap := by simpa using hroom
    cases A <;> simp [Builtin.append_, run_underlying ht, sizeOf, typeInfo, hi, Builtin.lenOf, Builtin.firstCells, loadCells, loadCellsFrom, storeCells, hle]
  · obtain ⟨ad, rfl, _, _⟩ := HR.2 h0
    have hfl : (nums k full).toArray.size = full.length := by simp [nums]
    have hr := run_append_room (P := P) w t ty e i0 ht hi g n cap (nums k full).toArray hg ad ys.length c (nums k ys) (by simp [nums, hz1]) (HR.news rfl) (nums_one k ys) (by omega) (by rw [hfl, nums_length, hz1]; omega)
    refine ⟨_, hr, ?_, ⟨rfl, rfl, rfl, by simp [World.setRow], fun q _ hq => setRow_other w g q _ (fun e => hq e)⟩⟩
    have := setRow_heap w g (nums k full).toArray ((nums k full).toArray.toList.take (n * i0.size) ++ nums k ys ++ (nums k full).toArray.toList.drop (n * i0.size + (nums k ys).length)).toArray e (0, 0) hg
    unfold Blk
    rw [this, nums_splice]
    simp [splice, hz1]
theorem wpList_append_room {ops : Array Oper} {rest : List Oper} {o : Oper} {a : Act} {Q : Exit → Act → World → Prop} {w : World} (hgd : o.guard = none) (s x : Operand) (t : TypeId)
    (ho : o.op = .call { callee := .builtin .append, args := #[s, x], argTypes := #[t, t] })
    (e : TypeId) (k : IntKind) (bytes : Nat) (ht : P.underlying t = some (.slice e)) (hinfo : (P.info? e).map (fun i => (i.zero, i.size, i.bytes)) = some (some (.int k 0), 1, bytes))
    (g n cap : Nat) (full : List Int) (hs : a.eval s = .slice (some ⟨g, 0, none⟩) n cap) (hg : Blk w g e (nums k full)) (hcap : cap ≤ full.length) (ys : List Int) (A : Option Addr) (m c : Nat) (hx : a.eval x = .slice A m c) (hm : m = ys.length) (HR : Rk k w A ys) (hroom : n + ys.length ≤ cap)
    (h : ∀ w1, Blk w1 g e (nums k (splice full n ys)) → Chg (fun b => b = g) w w1 → wpList P ops Q rest (a.put o.dst (.slice (some ⟨g, 0, none⟩) (n + m) cap)) w1) :
    wpList P ops Q (o :: rest) a w := by
  obtain ⟨w1, hr, h2, h3⟩ := run_append_room_blk w t o.type e k bytes ht hinfo g n cap full hg hcap ys A m c hm HR hroom
  refine wpList_plain hgd fun K hK => ?_
  unfold Oper.wp execOp
  simp only [ho, resolve, invoke, builtin, Sem.run_bind, Sem.run_pure, Result.andThen_ok, List.map_toArray, List.map_cons, List.map_nil, hs, hx, hr]
  exact hK _ _ (h w1 h2 h3)
end
end Go.Proofs.YthnebljgnmggaaaDoor.V
