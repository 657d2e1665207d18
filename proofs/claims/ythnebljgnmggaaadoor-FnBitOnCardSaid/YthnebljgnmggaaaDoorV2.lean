/- Words for memory, second part: append, make and copy at rows of one cell an element. -/
import Derived.Test.YthnebljgnmggaaaDoorV
set_option linter.unusedVariables false
set_option linter.unusedSimpArgs false
namespace Go.Proofs.YthnebljgnmggaaaDoor.V
open Go.RowKit

theorem wf_u8_byte {n : Int} (h : (Lit.int .u8 n).wf = true) : 0 ≤ n ∧ n ≤ 255 := by
  simp [Lit.wf, IntKind.min, IntKind.max, IntKind.signed, IntKind.bits] at h
  omega
theorem wf_u16_lt {n : Int} (h : (Lit.int .u16 n).wf = true) : 0 ≤ n ∧ n ≤ 65535 := by
  simp [Lit.wf, IntKind.min, IntKind.max, IntKind.signed, IntKind.bits] at h
  omega
theorem wf_u32_lt {n : Int} (h : (Lit.int .u32 n).wf = true) : 0 ≤ n ∧ n ≤ 4294967295 := by
  simp [Lit.wf, IntKind.min, IntKind.max, IntKind.signed, IntKind.bits] at h
  omega
theorem wf_u64_lt {n : Int} (h : (Lit.int .u64 n).wf = true) : 0 ≤ n ∧ n ≤ 18446744073709551615 := by
  simp [Lit.wf, IntKind.min, IntKind.max, IntKind.signed, IntKind.bits] at h
  omega
theorem wf_i64_lt {n : Int} (h : (Lit.int .i64 n).wf = true) : -9223372036854775808 ≤ n ∧ n ≤ 9223372036854775807 := by
  simp [Lit.wf, IntKind.min, IntKind.max, IntKind.signed, IntKind.bits] at h
  omega

theorem info_parts {P : Program} {e : TypeId} {z : Value} {bytes : Nat} (hinfo : (P.info? e).map (fun i => (i.zero, i.size, i.bytes)) = some (some z, 1, bytes)) :
    ∃ i, P.info? e = some i ∧ i.zero = some z ∧ i.size = 1 ∧ i.bytes = bytes := by
  obtain ⟨i0, hi, hzz⟩ := Option.map_eq_some_iff.1 hinfo
  simp only [Prod.mk.injEq] at hzz
  exact ⟨i0, hi, hzz.1, hzz.2.1, hzz.2.2⟩

theorem nums_splice (k : IntKind) (xs ys : List Int) (off : Nat) : nums k (splice xs off ys) = splice (nums k xs) off (nums k ys) := by
  simp [nums, splice, List.map_append, List.map_take, List.map_drop]

theorem splice_take {α : Type} (X R C : List α) (off : Nat) (h : off + C.length ≤ X.length) : (List.take off (X ++ R) ++ C ++ List.drop (off + C.length) (X ++ R)).take X.length = splice X off C := by
  rw [List.take_append_of_le_length (l₁ := X) (by omega), List.drop_append_of_le_length h]
  have e : List.take off X ++ C ++ (List.drop (off + C.length) X ++ R) = splice X off C ++ R := by simp [splice, List.append_assoc]
  rw [e, ← length_splice X off C h]
  exact List.take_left

section
variable {P : Program}
theorem run_append_rk (w : World) (base : Nat) (t ty e : TypeId) (k : IntKind) (bytes : Nat) (ht : P.underlying t = some (.slice e)) (hinfo : (P.info? e).map (fun i => (i.zero, i.size, i.bytes)) = some (some (.int k 0), 1, bytes)) (hb0 : 0 < bytes)
    (v : Value) (xs ys : List Int) (A : Option Addr) (c : Nat) (HO : Own w base e k v xs) (HR : Rk k w A ys) (hbase : base ≤ w.heap.size) (hl : (xs.length + ys.length) * bytes ≤ 140737488355328) :
    ∃ v1 w1, (Builtin.append_ #[t, t] ty #[v, .slice A ys.length c]).run P w = .ok v1 w1 ∧ Own w1 base e k v1 (xs ++ ys) ∧ w.grownBy w1 v.ownBlock ∧ (v1.ownBlock = v.ownBlock ∨ v1.ownBlock = some w.heap.size) := by
  obtain ⟨i0, hi, hz0, hz1, hz2⟩ := info_parts hinfo
  have hlen : xs.length + ys.length ≤ 140737488355328 := Nat.le_trans (Nat.le_mul_of_pos_right _ hb0) hl
  rcases A with _ | ad
  · have h0 : ys = [] := by
      rcases Nat.eq_zero_or_pos ys.length with h0 | h0
      · exact List.eq_nil_of_length_eq_zero h0
      · obtain ⟨ad, h, _⟩ := HR.2 h0
        cases h
    subst h0
    refine ⟨v, w, ?_, by simpa using HO, World.grownBy.refl w _, .inl rfl⟩
    rcases HO.2 with ⟨rfl, hn⟩ | ⟨g, cap, cur, rfl, _, _, hnc, _⟩
    · simp [Builtin.append_, run_underlying ht, sizeOf, typeInfo, hi, Builtin.lenOf, Builtin.firstCells]
    · simp [Builtin.append_, run_underlying ht, sizeOf, typeInfo, hi, Builtin.lenOf, Builtin.firstCells, hnc, storeCells]
  · obtain ⟨v1, w1, hr, h2, h3, _, h5⟩ := run_append_own_at (P := P) w base t ty e i0 (.int k 0) 1 bytes ht hi hz0 hz1 hz2 rfl (by omega) v xs.length (nums k xs) HO ad ys.length c (nums k ys) (by simp [nums]) (HR.news rfl)
      (nums_one k ys) (by simp only [maxLen]; omega) hl hbase
    refine ⟨v1, w1, hr, ?_, h3, h5⟩
    unfold Own
    rw [List.length_append, nums_append]
    exact h2
theorem wpList_append_rk {ops : Array Oper} {rest : List Oper} {o : Oper} {a : Act} {Q : Exit → Act → World → Prop} {w : World} (hgd : o.guard = none) (s x : Operand) (t : TypeId)
    (ho : o.op = .call { callee := .builtin .append, args := #[s, x], argTypes := #[t, t] })
    (e : TypeId) (k : IntKind) (bytes : Nat) (ht : P.underlying t = some (.slice e)) (hinfo : (P.info? e).map (fun i => (i.zero, i.size, i.bytes)) = some (some (.int k 0), 1, bytes)) (hb0 : 0 < bytes)
    (v : Value) (base : Nat) (xs ys : List Int) (A : Option Addr) (c : Nat) (hs : a.eval s = v) (hx : a.eval x = .slice A ys.length c) (HO : Own w base e k v xs) (HR : Rk k w A ys) (hbase : base ≤ w.heap.size) (hl : (xs.length + ys.length) * bytes ≤ 140737488355328)
    (h : ∀ v1 w1, Own w1 base e k v1 (xs ++ ys) → w.grownBy w1 v.ownBlock → (v1.ownBlock = v.ownBlock ∨ v1.ownBlock = some w.heap.size) → wpList P ops Q rest (a.put o.dst v1) w1) :
    wpList P ops Q (o :: rest) a w := by
  obtain ⟨v1, w1, hr, h2, h3, h5⟩ := run_append_rk w base t o.type e k bytes ht hinfo hb0 v xs ys A c HO HR hbase hl
  refine wpList_plain hgd fun K hK => ?_
  unfold Oper.wp execOp
  simp only [ho, resolve, invoke, builtin, Sem.run_bind, Sem.run_pure, Result.andThen_ok, List.map_toArray, List.map_cons, List.map_nil, hs, hx, hr]
  exact hK _ _ (h v1 w1 h2 h3 h5)

/-- make([]T, m), m a cast. -/
theorem run_make_k (t e : TypeId) (k : IntKind) (bytes : Nat) (ht : P.underlying t = some (.slice e)) (hinfo : (P.info? e).map (fun i => (i.zero, i.size, i.bytes)) = some (some (.int k 0), 1, bytes)) (hb0 : 0 < bytes)
    (m : Nat) (hn : m * bytes ≤ 281474976710656) :
    ∀ W : World, (Instr.makeSlice t (.int .i64 (m : Int)) (.int .i64 (m : Int))).run P W = .ok (.slice (some ⟨W.heap.size, 0, none⟩) m m) (W.alloc (.cells (madeCells #[.int k 0] m) e)) := by
  intro W
  have hm : m ≤ 281474976710656 := Nat.le_trans (Nat.le_mul_of_pos_right _ hb0) hn
  exact run_make_row' t e (.int k 0) bytes ht hinfo rfl .i64 .i64 m (by rw [Nat.mul_comm]; exact hn) (by omega) W

/-- copy(d, s), d a part of a row of the call's own (block g, from place off on, n elements), s any bytes that are read. -/
theorem run_copy_own {et : TypeId} (w : World) (base : Nat) (dT sT ty e : TypeId) (k : IntKind) (hu : P.underlying dT = some (.slice e)) (hsz : (P.info? e).map (·.size) = some 1)
    (g cap : Nat) (xs : List Int) (HO : Own w base et k (.slice (some ⟨g, 0, none⟩) xs.length cap) xs) (dA : Option Addr) (off n dc : Nat) (hoff : off + n ≤ xs.length) (hA : 0 < n → dA = some ⟨g, off, none⟩)
    (A : Option Addr) (ys : List Int) (c : Nat) (HR : Rk k w A ys) :
    ∃ w1, (Builtin.copy_ #[dT, sT] ty #[.slice dA n dc, .slice A ys.length c]).run P w = .ok (goInt ((min ys.length n : Nat) : Int)) w1 ∧
      Own w1 base et k (.slice (some ⟨g, 0, none⟩) xs.length cap) (splice xs off (ys.take n)) ∧ w.grownBy w1 (some g) := by
  by_cases h0 : min ys.length n = 0
  · refine ⟨w, ?_, ?_, World.grownBy.refl w _⟩
    · rw [run_copy_none w dT sT ty e dA A n dc ys.length c hu hsz h0, h0]; rfl
    · have hz : ys.take n = [] := List.eq_nil_of_length_eq_zero (by rw [List.length_take]; omega)
      rw [hz]
      simpa [splice] using HO
  · have hn : 0 < n := by omega
    obtain rfl := hA hn
    obtain ⟨ad, rfl, _, hcell⟩ := HR.2 (by omega)
    rcases HO.2 with ⟨h', _⟩ | ⟨g', cap', cur, h', hb, hg, hnc, hcm, hcs, htake⟩
    · simp at h'
    · simp only [Value.slice.injEq, Option.some.injEq, Addr.mk.injEq, and_true, true_and] at h'
      obtain ⟨rfl, rfl⟩ := h'
      have hcs' : cur.size = cap := by simpa using hcs
      have hlen : (nums k (ys.take n)).length = Nat.min ys.length n := by rw [nums_length, List.length_take]; exact Nat.min_comm _ _
      have hr := run_copy_row (P := P) w dT sT ty e g off n dc ad ys.length c cur et (nums k (ys.take n)) hu hsz hg hlen
        (fun j u hu => by
          obtain ⟨hj, rfl⟩ := nums_at hu
          rw [List.length_take] at hj
          rw [hcell j (by omega)]
          simp [List.getD_eq_getElem?_getD, show j < n by omega])
        (by rw [hlen, hcs']; have : Nat.min ys.length n ≤ n := Nat.min_le_right _ _; omega) (nums_one _ _)
      have hpl : (splice xs off (ys.take n)).length = xs.length := length_splice _ _ _ (by rw [List.length_take]; omega)
      refine ⟨_, hr.trans (by rw [hlen]; try rfl), ⟨by rw [nums_length]; simp [hpl], .inr ⟨g, cap, _, by rw [hpl], hb, setRow_heap w g cur _ et _ hg, by rw [hpl]; exact hnc, hcm, ?_, ?_⟩⟩, ⟨rfl, rfl, rfl, by simp [World.setRow], fun q _ hq => setRow_other w g q _ (fun e => hq (by simp [e]))⟩⟩
      · simp only [List.size_toArray, List.length_append, List.length_take, List.length_drop, Array.length_toList, hlen]
        have : Nat.min ys.length n ≤ n := Nat.min_le_right _ _
        omega
      · simp only [Nat.mul_one] at htake ⊢
        rw [hpl, nums_splice]
        have hx : cur.toList = nums k xs ++ cur.toList.drop xs.length := by rw [← htake, List.take_append_drop]
        have hm : off + (nums k (ys.take n)).length ≤ (nums k xs).length := by rw [hlen, nums_length]; have : Nat.min ys.length n ≤ n := Nat.min_le_right _ _; omega
        have hs := splice_take (nums k xs) (cur.toList.drop xs.length) (nums k (ys.take n)) off hm
        rw [hx]
        simp only [hlen, nums_length] at hs ⊢
        exact hs
/-- The operation that writes slot N stands next: a guard for an arm. -/
theorem gate {ops : Array Oper} {rest : List Oper} {o : Oper} {a : Act} {Q : Exit → Act → World → Prop} {w : World} {N : Nat} (_hd : o.dst = some N) (h : wpList P ops Q (o :: rest) a w) : wpList P ops Q (o :: rest) a w := h

theorem wpList_make_k {ops : Array Oper} {rest : List Oper} {o : Oper} {a : Act} {Q : Exit → Act → World → Prop} {w : World} (hgd : o.guard = none) (l : Operand) (t : TypeId)
    (ho : o.op = .makeSlice t l l) (e : TypeId) (k : IntKind) (bytes : Nat) (ht : P.underlying t = some (.slice e)) (hinfo : (P.info? e).map (fun i => (i.zero, i.size, i.bytes)) = some (some (.int k 0), 1, bytes)) (hb0 : 0 < bytes)
    (m : Nat) (n : Int) (hs : a.eval l = .int .i64 n) (hmn : (m : Int) = n) (hn : m * bytes ≤ 281474976710656)
    (h : ∀ w1 g, As (g = w.heap.size) → Own w1 w.heap.size e k (.slice (some ⟨g, 0, none⟩) m m) (List.replicate m 0) → Chg NoB w w1 → w1.heap.size = w.heap.size + 1 → wpList P ops Q rest (a.put o.dst (.slice (some ⟨g, 0, none⟩) m m)) w1) :
    wpList P ops Q (o :: rest) a w := by
  subst hmn
  have hml : m ≤ 281474976710656 := Nat.le_trans (Nat.le_mul_of_pos_right _ hb0) hn
  have hr := run_make_k (P := P) t e k bytes ht hinfo hb0 m hn w
  refine wpList_plain hgd fun K hK => ?_
  unfold Oper.wp execOp
  simp only [ho, hs, Sem.run_bind, hr, Result.andThen_ok, Sem.run_pure]
  exact hK _ _ (h _ _ ⟨rfl⟩ (own_made w w.heap.size e k m (Nat.le_refl _) (by simp only [maxLen]; omega)) ((Chg.refl _ _).alloc _) (Array.size_push _))
theorem wpList_copy_rk {et : TypeId} {ops : Array Oper} {rest : List Oper} {o : Oper} {a : Act} {Q : Exit → Act → World → Prop} {w : World} (hgd : o.guard = none) (d s : Operand) (dT sT : TypeId)
    (ho : o.op = .call { callee := .builtin .copy, args := #[d, s], argTypes := #[dT, sT] }) (base : Nat) (e : TypeId) (k : IntKind) (hu : P.underlying dT = some (.slice e)) (hsz : (P.info? e).map (·.size) = some 1)
    (g cap : Nat) (xs : List Int) (HO : Own w base et k (.slice (some ⟨g, 0, none⟩) xs.length cap) xs) (dA : Option Addr) (off n dc : Nat) (hoff : off + n ≤ xs.length) (hd : a.eval d = .slice dA n dc) (hA : 0 < n → dA = some ⟨g, off, none⟩)
    (A : Option Addr) (ys : List Int) (c : Nat) (hs : a.eval s = .slice A ys.length c) (HR : Rk k w A ys)
    (h : ∀ w1, Own w1 base et k (.slice (some ⟨g, 0, none⟩) xs.length cap) (splice xs off (ys.take n)) → w.grownBy w1 (some g) → wpList P ops Q rest (a.put o.dst (goInt ((min ys.length n : Nat) : Int))) w1) :
    wpList P ops Q (o :: rest) a w := by
  obtain ⟨w1, hr, h2, h3⟩ := run_copy_own w base dT sT o.type e k hu hsz g cap xs HO dA off n dc hoff hA A ys c HR
  refine wpList_plain hgd fun K hK => ?_
  unfold Oper.wp execOp
  simp only [ho, resolve, invoke, builtin, Sem.run_bind, Sem.run_pure, Result.andThen_ok, List.map_toArray, List.map_cons, List.map_nil, hd, hs, hr]
  exact hK _ _ (h w1 h2 h3)
end
/-! ### cuts: x[i:], x[:j], x[i:j] of a slice of one cell an element; the address behind is a letter -/
section
variable {P : Program}
theorem run_cut_raw (t e : TypeId) (ht : P.underlying t = some (.slice e)) (hsz : (P.info? e).map (·.size) = some 1) (A : Option Addr) (n c : Nat) (i j : Int) (k1 k2 : IntKind) (h0 : 0 ≤ i) (h1 : i ≤ j) (h2 : j ≤ c) (W : World) :
    (Instr.slice t (.slice A n c) (some (.int k1 i)) (some (.int k2 j)) none).run P W = .ok (.slice (if c = i.toNat then A else A.map (·.add i.toNat)) (j.toNat - i.toNat) (c - i.toNat)) W := by
  obtain ⟨jn, rfl⟩ := Int.eq_ofNat_of_zero_le (show 0 ≤ j from by omega)
  obtain ⟨m, rfl⟩ := Int.eq_ofNat_of_zero_le h0
  have hj : jn ≤ c := by omega
  have hi : m ≤ jn := by omega
  cases hq : P.info? e with
  | none => simp [hq] at hsz
  | some q =>
    have hs1 : q.size = 1 := by simpa [hq] using hsz
    simp [Instr.slice, run_underlying ht, Instr.sliceBounds, Instr.sliceBound, asIntOf, hj, hi, sizeOf, typeInfo, hq, hs1, go_sem]
theorem run_cut_raw_from (t e : TypeId) (ht : P.underlying t = some (.slice e)) (hsz : (P.info? e).map (·.size) = some 1) (A : Option Addr) (n c : Nat) (i : Int) (k1 : IntKind) (h0 : 0 ≤ i) (h1 : i ≤ n) (W : World) :
    (Instr.slice t (.slice A n c) (some (.int k1 i)) none none).run P W = .ok (.slice (if c = i.toNat then A else A.map (·.add i.toNat)) (n - i.toNat) (c - i.toNat)) W := by
  have hi : (0 ≤ i ∧ i ≤ (n : Int)) := by omega
  cases hq : P.info? e with
  | none => simp [hq] at hsz
  | some q =>
    have hs1 : q.size = 1 := by simpa [hq] using hsz
    simp [Instr.slice, run_underlying ht, Instr.sliceBounds, Instr.sliceBound, asIntOf, hi, sizeOf, typeInfo, hq, hs1, go_sem]
theorem run_cut_raw_to (t e : TypeId) (ht : P.underlying t = some (.slice e)) (hsz : (P.info? e).map (·.size) = some 1) (A : Option Addr) (n c : Nat) (j : Int) (k2 : IntKind) (h0 : 0 ≤ j) (h2 : j ≤ c) (W : World) :
    (Instr.slice t (.slice A n c) none (some (.int k2 j)) none).run P W = .ok (.slice (if c = 0 then A else A.map (·.add 0)) j.toNat c) W := by
  have hj : (0 ≤ j ∧ j ≤ (c : Int)) := by omega
  cases hq : P.info? e with
  | none => simp [hq] at hsz
  | some q =>
    have hs1 : q.size = 1 := by simpa [hq] using hsz
    simp [Instr.slice, run_underlying ht, Instr.sliceBounds, Instr.sliceBound, asIntOf, hj, sizeOf, typeInfo, hq, hs1, go_sem]
theorem map_add_zero (A : Option Addr) : A.map (·.add 0) = A := by cases A <;> simp [Addr.add]
/-- x[i:] -/
theorem cut_from (t e : TypeId) (ht : P.underlying t = some (.slice e)) (hsz : (P.info? e).map (·.size) = some 1) (A : Option Addr) (n c : Nat) (i : Int) (k1 : IntKind) (n' c' : Nat) (h0 : 0 ≤ i) (hn : (n' : Int) + i = n) (hc : (c' : Int) + i = c) (hnc : n ≤ c) :
    ∃ A', (∀ W : World, (Instr.slice t (.slice A n c) (some (.int k1 i)) none none).run P W = .ok (.slice A' n' c') W) ∧ (0 < n' → A' = A.map (·.add i.toNat)) ∧
      ∀ (w : World) (k : IntKind) (xs : List Int), xs.length = n → Rk k w A xs → Rk k w A' (xs.drop i.toNat) := by
  refine ⟨if c = i.toNat then A else A.map (·.add i.toNat), fun W => ?_, fun h => if_neg (by omega), fun w k xs hl hr => hr.drop_if _ _ (by omega)⟩
  rw [run_cut_raw_from t e ht hsz A n c i k1 h0 (by omega) W, show n - i.toNat = n' from by omega, show c - i.toNat = c' from by omega]
/-- x[:j] -/
theorem cut_to (t e : TypeId) (ht : P.underlying t = some (.slice e)) (hsz : (P.info? e).map (·.size) = some 1) (A : Option Addr) (n c : Nat) (j : Int) (k1 : IntKind) (n' : Nat) (hj : (n' : Int) = j) (hc : n' ≤ c) :
    ∀ W : World, (Instr.slice t (.slice A n c) none (some (.int k1 j)) none).run P W = .ok (.slice A n' c) W := by
  intro W
  rw [run_cut_raw_to t e ht hsz A n c j k1 (by omega) (by omega) W, map_add_zero, show j.toNat = n' from by omega]
  simp
/-- x[i:j] -/
theorem cut_mid (t e : TypeId) (ht : P.underlying t = some (.slice e)) (hsz : (P.info? e).map (·.size) = some 1) (A : Option Addr) (n c : Nat) (i j : Int) (k1 k2 : IntKind) (n' c' : Nat) (h0 : 0 ≤ i) (hn : (n' : Int) + i = j) (hc : (c' : Int) + i = c) (hjc : n' ≤ c') :
    ∃ A', (∀ W : World, (Instr.slice t (.slice A n c) (some (.int k1 i)) (some (.int k2 j)) none).run P W = .ok (.slice A' n' c') W) ∧ (0 < c' → A' = A.map (·.add i.toNat)) ∧
      ∀ (w : World) (k : IntKind) (xs : List Int), j ≤ xs.length → xs.length ≤ c → Rk k w A xs → Rk k w A' ((xs.drop i.toNat).take n') := by
  refine ⟨if c = i.toNat then A else A.map (·.add i.toNat), fun W => ?_, fun h => if_neg (by omega), fun w k xs hl hl2 hr => (hr.drop_if _ _ hl2).take_ _⟩
  rw [run_cut_raw t e ht hsz A n c i j k1 k2 h0 (by omega) (by omega) W, show j.toNat - i.toNat = n' from by omega, show c - i.toNat = c' from by omega]
end

/-- One element of a row of the call's own: how it reads, that it may be written, and what it is then. -/
theorem own_at {w : World} {base g n cap : Nat} {e : TypeId} {k : IntKind} {xs : List Int} (h : Own w base e k (.slice (some ⟨g, 0, none⟩) n cap) xs) (i : Nat) (hi : i < xs.length) :
    w.cell? ⟨g, i, none⟩ = some (.int k (rd xs (i : Int))) ∧ w.frozen? ⟨g, i, none⟩ = false := by
  rcases h.2 with ⟨h', _⟩ | ⟨g', cap', cur, h', hb, hg, hnc, hcm, hcs, htake⟩
  · simp at h'
  · simp only [Value.slice.injEq, Option.some.injEq, Addr.mk.injEq, and_true, true_and] at h'
    obtain ⟨rfl, _, rfl⟩ := h'
    refine ⟨?_, frozen_of_row w g i cur e hg⟩
    rw [cell_of_row w g i cur e (0, 0) hg]
    have : (nums k xs)[i]? = cur[i]? := by
      rw [← htake, List.getElem?_take, if_pos (by omega)]; simp
    rw [← this, nums_get hi]
    unfold rd
    rw [Int.toNat_natCast]
theorem own_set {w : World} {base g n cap : Nat} {e : TypeId} {k : IntKind} {xs : List Int} (h : Own w base e k (.slice (some ⟨g, 0, none⟩) n cap) xs) (i : Nat) (x : Int) :
    Own (w.setCell ⟨g, i, none⟩ (.int k x)) base e k (.slice (some ⟨g, 0, none⟩) n cap) (xs.set i x) := by
  have hn : n = xs.length := by
    rcases h.2 with ⟨h', _⟩ | ⟨g', cap', cur, h', _⟩
    · simp at h'
    · simp only [Value.slice.injEq] at h'; omega
  subst hn
  have hs := (h.stored i (.int k x)).1
  unfold Own
  rw [List.length_set, ← nums_set]
  exact hs
theorem own_form_pos {w : World} {base : Nat} {e : TypeId} {k : IntKind} {v : Value} {xs : List Int} (h : Own w base e k v xs) (hp : 0 < xs.length) :
    ∃ g c, v = .slice (some ⟨g, 0, none⟩) xs.length c ∧ xs.length ≤ c ∧ base ≤ g ∧ g < w.heap.size := by
  rcases h.2 with ⟨rfl, h0⟩ | ⟨g, cap, cur, rfl, hb, hg, hn, hm, hs, htake⟩
  · omega
  · exact ⟨g, cap, rfl, hn, hb, (Array.getElem?_eq_some_iff.1 hg).1⟩
theorem own_len {w : World} {base n c : Nat} {A : Option Addr} {e : TypeId} {k : IntKind} {xs : List Int} (h : Own w base e k (.slice A n c) xs) : n = xs.length := by
  obtain ⟨A', c', e', _, _, _⟩ := own_form h
  injection e'
theorem own_fix {w : World} {base n c : Nat} {A : Option Addr} {e : TypeId} {k : IntKind} {xs : List Int} (h : Own w base e k (.slice A n c) xs) : Own w base e k (.slice A xs.length c) xs := by
  have := own_len h
  subst this
  exact h
theorem own_take {w : World} {base n c : Nat} {A : Option Addr} {e : TypeId} {k : IntKind} {xs : List Int} (h : Own w base e k (.slice A n c) xs) (m : Nat) (hm : m ≤ xs.length) : Own w base e k (.slice A (xs.take m).length c) (xs.take m) := by
  have hl : (xs.take m).length = m := by rw [List.length_take]; omega
  rcases h.2 with ⟨h', h0⟩ | ⟨g', cap', cur, h', hb, hg, hn, hmx, hs, htake⟩
  · injection h' with e1 e2 e3
    subst e1 e3
    have : m = 0 := by omega
    subst this
    exact ⟨by simp [nums], .inl ⟨by simp, by simp⟩⟩
  · injection h' with e1 e2 e3
    subst e1 e3
    refine ⟨by simp [nums], .inr ⟨g', c, cur, rfl, hb, hg, by omega, hmx, hs, ?_⟩⟩
    rw [hl]
    have : cur.toList.take (m * 1) = (cur.toList.take (xs.length * 1)).take m := by rw [List.take_take]; congr 1; omega
    rw [this, htake]
    simp [nums, List.map_take]
theorem own_blocks {w : World} {base g n cap : Nat} {e : TypeId} {k : IntKind} {xs : List Int} (h : Own w base e k (.slice (some ⟨g, 0, none⟩) n cap) xs) : base ≤ g ∧ g < w.heap.size := own_block_lt h g rfl
theorem own_reads {w : World} {base n c : Nat} {A : Option Addr} {e : TypeId} {k : IntKind} {xs : List Int} (h : Own w base e k (.slice A n c) xs) : Rk k w A xs := by
  obtain ⟨A', c', e', _, hr, _⟩ := own_form h
  injection e' with e1 e2 e3
  subst e1
  exact hr
end Go.Proofs.YthnebljgnmggaaaDoor.V
