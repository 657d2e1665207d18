/- Words for rows of structs and of pointers; slices whose bytes lie in blocks of one kind. -/
import Derived.Test.YtlpningplmbnhaaDoorV3
set_option linter.unusedVariables false
set_option linter.unusedSimpArgs false
namespace Go.Proofs.YtlpningplmbnhaaDoor.V
open Go.RowKit

/-- A slice of bytes that reads as xs and lies in a block of F. -/
def Rf (F : Nat → Prop) (w : World) (A : Option Addr) (xs : List Int) : Prop := Rb w A xs ∧ ∀ ad, A = some ad → 0 < xs.length → F ad.block
section
variable {S F F' : Nat → Prop} {w w' : World} {A : Option Addr} {xs : List Int}
theorem Rf.lt (h : Rf F w A xs) {ad : Addr} (e : A = some ad) (hp : 0 < xs.length) : ad.block < w.heap.size := by
  obtain ⟨ad', e', hb, _⟩ := h.1.2 hp
  rw [e] at e'; injection e' with e'; subst e'; exact hb
theorem Rf.chg (h : Rf F w A xs) (hc : Chg S w w') (hs : ∀ b, b < w.heap.size → F b → ¬ S b) : Rf F w' A xs := by
  refine ⟨⟨h.1.1, fun hn => ?_⟩, h.2⟩
  obtain ⟨ad, e, hb, hcell⟩ := h.1.2 hn
  exact ⟨ad, e, Nat.lt_of_lt_of_le hb hc.size, fun j hj => (hc.cell (p := ad.add j) (by rw [add_block]; exact hb) (by rw [add_block]; exact hs _ hb (h.2 ad e hn))).trans (hcell j hj)⟩
theorem Rf.keep (h : Rf F w A xs) (hc : Chg NoB w w') : Rf F w' A xs := h.chg hc (fun _ _ _ e => e)
theorem Rf.mono (h : Rf F w A xs) (hf : ∀ b, b < w.heap.size → F b → F' b) : Rf F' w A xs :=
  ⟨h.1, fun ad e hp => hf _ (h.lt e hp) (h.2 ad e hp)⟩
theorem Rf.of (h : Rb w A xs) {B : Nat} (hB : w.heap.size ≤ B) : Rf (· < B) w A xs :=
  ⟨h, fun ad e hp => by
    obtain ⟨ad', e', hb, _⟩ := h.2 hp
    rw [e] at e'; injection e' with e'; subst e'; exact Nat.lt_of_lt_of_le hb hB⟩
theorem Rf.take_ (h : Rf F w A xs) (i : Nat) : Rf F w A (xs.take i) :=
  ⟨h.1.take_ i, fun ad e hp => h.2 ad e (by rw [List.length_take] at hp; omega)⟩
theorem Rf.drop_if (h : Rf F w A xs) (i c : Nat) (hc : xs.length ≤ c) : Rf F w (if c = i then A else A.map (·.add i)) (xs.drop i) := by
  refine ⟨h.1.drop_if i c hc, fun ad e hp => ?_⟩
  rw [List.length_drop] at hp
  by_cases q : c = i
  · omega
  · rw [if_neg q] at e
    cases A with
    | none => cases e
    | some a => simp at e; subst e; rw [add_block]; exact h.2 a rfl (by omega)
/-- A row of the call's own reads so. -/
theorem Rf.of_ow {base n c : Nat} {e : TypeId} (h : Ow w base e .u8 (.slice A n c) xs) {B : Nat} (hB : B ≤ base) : Rf (fun b => B ≤ b) w A xs := by
  obtain ⟨A', c', e', _, hr⟩ := ow_form h
  injection e' with e1
  subst e1
  refine ⟨hr, fun ad e hp => ?_⟩
  obtain ⟨g, hg, hb, _⟩ := ow_block h hp
  rw [hg] at e; injection e with e; subst e; exact Nat.le_trans hB hb
end
section
variable {P : Program}
/-- x[i:], with the kind of its block. -/
theorem cut_from_f (t e : TypeId) (ht : P.underlying t = some (.slice e)) (hsz : (P.info? e).map (·.size) = some 1) (A : Option Addr) (n c : Nat) (i : Int) (k1 : IntKind) (n' c' : Nat) (h0 : 0 ≤ i) (hn : (n' : Int) + i = n) (hc : (c' : Int) + i = c) (hnc : n ≤ c) :
    ∃ A', (∀ W : World, (Instr.slice t (.slice A n c) (some (.int k1 i)) none none).run P W = .ok (.slice A' n' c') W) ∧
      ∀ (F : Nat → Prop) (w : World) (xs : List Int), xs.length = n → Rf F w A xs → Rf F w A' (xs.drop i.toNat) := by
  refine ⟨if c = i.toNat then A else A.map (·.add i.toNat), fun W => ?_, fun F w xs hl hr => hr.drop_if _ _ (by omega)⟩
  rw [run_cut_raw_from t e ht hsz A n c i k1 h0 (by omega) W, show n - i.toNat = n' from by omega, show c - i.toNat = c' from by omega]
/-- x[i:j], with the kind of its block. -/
theorem cut_mid_f (t e : TypeId) (ht : P.underlying t = some (.slice e)) (hsz : (P.info? e).map (·.size) = some 1) (A : Option Addr) (n c : Nat) (i j : Int) (k1 k2 : IntKind) (n' c' : Nat) (h0 : 0 ≤ i) (hn : (n' : Int) + i = j) (hc : (c' : Int) + i = c) (hjc : n' ≤ c') :
    ∃ A', (∀ W : World, (Instr.slice t (.slice A n c) (some (.int k1 i)) (some (.int k2 j)) none).run P W = .ok (.slice A' n' c') W) ∧
      ∀ (F : Nat → Prop) (w : World) (xs : List Int), j ≤ xs.length → xs.length ≤ c → Rf F w A xs → Rf F w A' ((xs.drop i.toNat).take n') := by
  refine ⟨if c = i.toNat then A else A.map (·.add i.toNat), fun W => ?_, fun F w xs hl hl2 hr => (hr.drop_if _ _ hl2).take_ _⟩
  rw [run_cut_raw t e ht hsz A n c i j k1 k2 h0 (by omega) (by omega) W, show j.toNat - i.toNat = n' from by omega, show c - i.toNat = c' from by omega]

/-! ### append of one element of several cells -/
theorem info_parts_s {e : TypeId} {z : Value} {size bytes : Nat} (hinfo : (P.info? e).map (fun i => (i.zero, i.size, i.bytes)) = some (some z, size, bytes)) :
    ∃ i, P.info? e = some i ∧ i.zero = some z ∧ i.size = size ∧ i.bytes = bytes := by
  obtain ⟨i0, hi, hzz⟩ := Option.map_eq_some_iff.1 hinfo
  simp only [Prod.mk.injEq] at hzz
  exact ⟨i0, hi, hzz.1, hzz.2.1, hzz.2.2⟩
theorem run_append_s (w : World) (base : Nat) (t ty e : TypeId) (size : Nat) (z : Value) (bytes : Nat) (ht : P.underlying t = some (.slice e)) (hinfo : (P.info? e).map (fun i => (i.zero, i.size, i.bytes)) = some (some z, size, bytes)) (hzs : z.cells.size = size) (hsz : 0 < size) (hb0 : 0 < bytes)
    (v : Value) (n : Nat) (xs : List Value) (HO : w.ownsRow base e size v n xs) (ad : Addr) (c : Nat) (u : List Value) (hu : u.length = size) (hcell : ∀ j x, u[j]? = some x → w.cell? (ad.add j) = some x) (h1 : ∀ x ∈ u, x.oneCell' = true) (hbase : base ≤ w.heap.size) (hl : (n + 1) * bytes ≤ 140737488355328) :
    ∃ v1 w1, (Builtin.append_ #[t, t] ty #[v, .slice (some ad) 1 c]).run P w = .ok v1 w1 ∧ w1.ownsRow base e size v1 (n + 1) (xs ++ u) ∧ w.grownBy w1 v.ownBlock ∧ (v1.ownBlock = v.ownBlock ∨ v1.ownBlock = some w.heap.size) := by
  obtain ⟨i0, hi, hz0, hz1, hz2⟩ := info_parts_s hinfo
  have hlen : n + 1 ≤ 140737488355328 := Nat.le_trans (Nat.le_mul_of_pos_right _ hb0) hl
  obtain ⟨v1, w1, hr, h2, h3, _, h5⟩ := run_append_own_at (P := P) w base t ty e i0 z size bytes ht hi hz0 hz1 hz2 hzs hsz v n xs HO ad 1 c u (by rw [hu, Nat.one_mul]) hcell h1 (by simp only [maxLen]; omega) hl hbase
  exact ⟨v1, w1, hr, h2, h3, h5⟩
theorem wpList_append_s {ops : Array Oper} {rest : List Oper} {o : Oper} {a : Act} {Q : Exit → Act → World → Prop} {w : World} (hgd : o.guard = none) (s x : Operand) (t : TypeId)
    (ho : o.op = .call { callee := .builtin .append, args := #[s, x], argTypes := #[t, t] })
    (e : TypeId) (size : Nat) (z : Value) (bytes : Nat) (ht : P.underlying t = some (.slice e)) (hinfo : (P.info? e).map (fun i => (i.zero, i.size, i.bytes)) = some (some z, size, bytes)) (hzs : z.cells.size = size) (hsz : 0 < size) (hb0 : 0 < bytes)
    (v : Value) (base n : Nat) (xs : List Value) (ad : Addr) (c : Nat) (u : List Value) (hs : a.eval s = v) (hx : a.eval x = .slice (some ad) 1 c) (HO : w.ownsRow base e size v n xs) (hu : u.length = size) (hcell : ∀ j x, u[j]? = some x → w.cell? (ad.add j) = some x) (h1 : ∀ x ∈ u, x.oneCell' = true) (hbase : base ≤ w.heap.size) (hl : (n + 1) * bytes ≤ 140737488355328)
    (h : ∀ v1 w1, w1.ownsRow base e size v1 (n + 1) (xs ++ u) → w.grownBy w1 v.ownBlock → (v1.ownBlock = v.ownBlock ∨ v1.ownBlock = some w.heap.size) → wpList P ops Q rest (a.put o.dst v1) w1) :
    wpList P ops Q (o :: rest) a w := by
  obtain ⟨v1, w1, hr, h2, h3, h5⟩ := run_append_s w base t o.type e size z bytes ht hinfo hzs hsz hb0 v n xs HO ad c u hu hcell h1 hbase hl
  refine wpList_plain hgd fun K hK => ?_
  unfold Oper.wp execOp
  simp only [ho, resolve, invoke, builtin, Sem.run_bind, Sem.run_pure, Result.andThen_ok, List.map_toArray, List.map_cons, List.map_nil, hs, hx, hr]
  exact hK _ _ (h v1 w1 h2 h3 h5)
theorem step_append_s {ops : Array Oper} {o : Oper} {a : Act} {K : Act → World → Prop} {Q : Exit → Act → World → Prop} {E : Prop} {w : World} {N : Tmp} (_hd : o.dst = some N) (hgd : o.guard = none) (s x : Operand) (t : TypeId)
    (ho : o.op = .call { callee := .builtin .append, args := #[s, x], argTypes := #[t, t] })
    (e : TypeId) (size : Nat) (z : Value) (bytes : Nat) (ht : P.underlying t = some (.slice e)) (hinfo : (P.info? e).map (fun i => (i.zero, i.size, i.bytes)) = some (some z, size, bytes)) (hzs : z.cells.size = size) (hsz : 0 < size) (hb0 : 0 < bytes)
    (v : Value) (base n : Nat) (xs : List Value) (ad : Addr) (c : Nat) (u : List Value) (hs : a.eval s = v) (hx : a.eval x = .slice (some ad) 1 c) (HO : w.ownsRow base e size v n xs) (hu : u.length = size) (hcell : ∀ j x, u[j]? = some x → w.cell? (ad.add j) = some x) (h1 : ∀ x ∈ u, x.oneCell' = true) (hbase : base ≤ w.heap.size) (hl : (n + 1) * bytes ≤ 140737488355328)
    (h : ∀ v1 w1, w1.ownsRow base e size v1 (n + 1) (xs ++ u) → w.grownBy w1 v.ownBlock → (v1.ownBlock = v.ownBlock ∨ v1.ownBlock = some w.heap.size) → K (a.put o.dst v1) w1) :
    if Region.wanted o (yielded ops a.tmps) = true then Oper.wp P o a w K Q else E := by
  have hw : Region.wanted o (yielded ops a.tmps) = true := by simp [Region.wanted, hgd]
  rw [if_pos hw]
  obtain ⟨v1, w1, hr, h2, h3, h5⟩ := run_append_s w base t o.type e size z bytes ht hinfo hzs hsz hb0 v n xs HO ad c u hu hcell h1 hbase hl
  unfold Oper.wp execOp
  simp only [ho, resolve, invoke, builtin, Sem.run_bind, Sem.run_pure, Result.andThen_ok, List.map_toArray, List.map_cons, List.map_nil, hs, hx, hr]
  exact h v1 w1 h2 h3 h5
end
theorem row_chg {w w' : World} {S : Nat → Prop} {base : Nat} {e : TypeId} {size n : Nat} {v : Value} {xs : List Value} (h : w.ownsRow base e size v n xs) (hc : Chg S w w') (hs : ∀ b, v.ownBlock = some b → ¬ S b) : w'.ownsRow base e size v n xs := by
  refine ⟨h.1, ?_⟩
  rcases h.2 with hn | ⟨g, cap, cur, rfl, hb, hg, hn, hm, hsz, htake⟩
  · exact .inl hn
  · exact .inr ⟨g, cap, cur, rfl, hb, (hc.block g (Array.getElem?_eq_some_iff.1 hg).1 (hs g (by simp [Value.ownBlock]))).trans hg, hn, hm, hsz, htake⟩
theorem row_keep {w w' : World} {base : Nat} {e : TypeId} {size n : Nat} {v : Value} {xs : List Value} (h : w.ownsRow base e size v n xs) (hc : Chg NoB w w') : w'.ownsRow base e size v n xs := row_chg h hc (fun _ _ e => e)
theorem grown_chg {w w' : World} {nb : Option Nat} (h : w.grownBy w' nb) : Chg (fun b => nb = some b) w w' := (Chg.refl _ _).grown h (fun k _ e => e)
theorem row_form {w : World} {base : Nat} {e : TypeId} {size n : Nat} {v : Value} {xs : List Value} (h : w.ownsRow base e size v n xs) :
    ∃ A c, v = .slice A n c ∧ n ≤ c ∧ n ≤ 9223372036854775807 ∧ (0 < n → ∃ g, A = some ⟨g, 0, none⟩ ∧ base ≤ g ∧ g < w.heap.size ∧ v.ownBlock = some g ∧ ∀ j u, xs[j]? = some u → w.cell? ⟨g, j, none⟩ = some u) := by
  rcases h.2 with ⟨rfl, h0⟩ | ⟨g, cap, cur, rfl, hb, hg, hn, hm, hs, htake⟩
  · subst h0
    exact ⟨none, 0, rfl, by simp, by simp, fun hp => absurd hp (by simp)⟩
  · refine ⟨_, cap, rfl, hn, by simp only [maxLen] at hm; omega, fun _ => ⟨g, rfl, hb, (Array.getElem?_eq_some_iff.1 hg).1, rfl, fun j u hu => ?_⟩⟩
    have := h.cells (g := g) rfl j u hu
    rwa [add_lit0] at this

theorem Blk.news {w : World} {g : Nat} {t : TypeId} {cs : List Value} (h : Blk w g t cs) : ∀ j x, cs[j]? = some x → w.cell? ((⟨g, 0, none⟩ : Addr).add j) = some x := fun j x hx => by
  rw [add_lit0, h.cell, hx]

/-! ### structs of a number and two slices of bytes -/
/-- What is written in such a struct. -/
structure Sv where
  t : Int
  A1 : Option Addr
  n1 : Nat
  c1 : Nat
  A2 : Option Addr
  n2 : Nat
  c2 : Nat
def Sv.cells (k : IntKind) (s : Sv) : List Value := [.int k s.t, .slice s.A1 s.n1 s.c1, .slice s.A2 s.n2 s.c2]
/-- A number and two lists of bytes. -/
abbrev SubIt := Int × List Int × List Int
/-- The struct reads as the item; its bytes lie in blocks of F. -/
structure Sv.is (F : Nat → Prop) (w : World) (s : Sv) (it : SubIt) : Prop where
  t : s.t = it.1
  n1 : s.n1 = it.2.1.length
  n2 : s.n2 = it.2.2.length
  r1 : Rf F w s.A1 it.2.1
  r2 : Rf F w s.A2 it.2.2
theorem Sv.is.chg {S F : Nat → Prop} {w w' : World} {s : Sv} {it : SubIt} (h : s.is F w it) (hc : Chg S w w') (hs : ∀ b, b < w.heap.size → F b → ¬ S b) : s.is F w' it :=
  ⟨h.t, h.n1, h.n2, h.r1.chg hc hs, h.r2.chg hc hs⟩
theorem Sv.is.mono {F F' : Nat → Prop} {w : World} {s : Sv} {it : SubIt} (h : s.is F w it) (hf : ∀ b, b < w.heap.size → F b → F' b) : s.is F' w it :=
  ⟨h.t, h.n1, h.n2, h.r1.mono hf, h.r2.mono hf⟩
theorem flat_at {α β : Type} (f : α → List β) (m : Nat) (hf : ∀ s, (f s).length = m) : ∀ (vs : List α) (i : Nat) (s : α) (j : Nat), vs[i]? = some s → j < m → (vs.flatMap f)[i * m + j]? = (f s)[j]?
  | [], i, s, j, h, _ => by simp at h
  | x :: vs, 0, s, j, h, hj => by
    simp at h; subst h
    rw [List.flatMap_cons, List.getElem?_append_left (by rw [hf]; omega)]
    simp
  | x :: vs, i + 1, s, j, h, hj => by
    rw [List.flatMap_cons, List.getElem?_append_right (by rw [hf, Nat.add_mul]; omega), hf]
    rw [show (i + 1) * m + j - m = i * m + j from by rw [Nat.add_mul]; omega]
    exact flat_at f m hf vs i s j (by simpa using h) hj
/-- A row of structs: it reads as the items, whose bytes lie in other blocks. -/
def Svs (w : World) (base : Nat) (e : TypeId) (k : IntKind) (v : Value) (l : List SubIt) : Prop :=
  ∃ vs : List Sv, vs.length = l.length ∧ w.ownsRow base e 3 v l.length (vs.flatMap (Sv.cells k)) ∧ ∀ (i : Nat) (s : Sv) (it : SubIt), vs[i]? = some s → l[i]? = some it → s.is (fun b => v.ownBlock ≠ some b) w it
theorem Svs.nil (w : World) (base : Nat) (e : TypeId) (k : IntKind) : Svs w base e k (.slice none 0 0) [] :=
  ⟨[], rfl, World.ownsRow_nil _ _ _ _, fun i s it h => by simp at h⟩
theorem Svs.keep {w w' : World} {base : Nat} {e : TypeId} {k : IntKind} {v : Value} {l : List SubIt} (h : Svs w base e k v l) (hc : Chg NoB w w') : Svs w' base e k v l := by
  obtain ⟨vs, hl, ho, hi⟩ := h
  exact ⟨vs, hl, row_keep ho hc, fun i s it h1 h2 => (hi i s it h1 h2).chg hc (fun _ _ _ e => e)⟩
theorem Svs.lower {w : World} {base base' : Nat} {e : TypeId} {k : IntKind} {v : Value} {l : List SubIt} (h : Svs w base e k v l) (hb : base' ≤ base) : Svs w base' e k v l := by
  obtain ⟨vs, hl, ho, hi⟩ := h
  refine ⟨vs, hl, ⟨ho.1, ?_⟩, hi⟩
  rcases ho.2 with hn | ⟨g, cap, cur, rfl, hb', r⟩
  · exact .inl hn
  · exact .inr ⟨g, cap, cur, rfl, Nat.le_trans hb hb', r⟩
/-- What an append of one more struct leaves. -/
theorem Svs.snoc {w w1 : World} {base : Nat} {e : TypeId} {k : IntKind} {v v1 : Value} {l : List SubIt} {vs : List Sv} {s : Sv} {it : SubIt}
    (hl : vs.length = l.length) (ho : w.ownsRow base e 3 v l.length (vs.flatMap (Sv.cells k))) (hi : ∀ (i : Nat) (s : Sv) (it : SubIt), vs[i]? = some s → l[i]? = some it → s.is (fun b => v.ownBlock ≠ some b) w it)
    (hs : s.is (fun b => v.ownBlock ≠ some b) w it)
    (h2 : w1.ownsRow base e 3 v1 (l.length + 1) (vs.flatMap (Sv.cells k) ++ s.cells k)) (h3 : w.grownBy w1 v.ownBlock) (h5 : v1.ownBlock = v.ownBlock ∨ v1.ownBlock = some w.heap.size) :
    Svs w1 base e k v1 (l ++ [it]) := by
  have hf : ∀ (s : Sv) (it : SubIt), s.is (fun b => v.ownBlock ≠ some b) w it → s.is (fun b => v1.ownBlock ≠ some b) w1 it := fun s it h =>
    ((h.mono (F' := fun b => v.ownBlock ≠ some b ∧ b < w.heap.size) (fun b hb hn => ⟨hn, hb⟩)).chg (grown_chg h3) (fun b hb hn e => hn.1 e)).mono (fun b hb hn => by
      rcases h5 with h5 | h5
      · rw [h5]; exact hn.1
      · rw [h5]; intro e; injection e with e; have := hn.2; omega)
  refine ⟨vs ++ [s], by simp [hl], ?_, fun i x y hx hy => ?_⟩
  · rw [List.length_append, List.flatMap_append]
    simpa using h2
  · rcases Nat.lt_or_ge i vs.length with h | h
    · rw [List.getElem?_append_left h] at hx
      rw [List.getElem?_append_left (by omega)] at hy
      exact hf _ _ (hi i x y hx hy)
    · rw [List.getElem?_append_right h] at hx
      rw [List.getElem?_append_right (by omega)] at hy
      rw [hl] at hx
      have : i - l.length = 0 := by
        rcases Nat.eq_zero_or_pos (i - l.length) with h0 | h0
        · exact h0
        · rw [List.getElem?_eq_none (by simp; omega)] at hx; cases hx
      rw [this] at hx hy
      simp at hx hy
      subst hx hy
      exact hf _ _ hs
/-- One struct of the row. -/
theorem Svs.at_ {w : World} {base : Nat} {e : TypeId} {k : IntKind} {v : Value} {l : List SubIt} (h : Svs w base e k v l) :
    ∃ A c, v = .slice A l.length c ∧ l.length ≤ c ∧ l.length ≤ 9223372036854775807 ∧ ∀ (i : Nat) (it : SubIt), l[i]? = some it → ∃ (g : Nat) (s : Sv), A = some ⟨g, 0, none⟩ ∧ base ≤ g ∧ g < w.heap.size ∧ s.is (fun b => g ≠ b) w it ∧
      w.cell? ⟨g, i * 3, none⟩ = some (.int k s.t) ∧ w.cell? ⟨g, i * 3 + 1, none⟩ = some (.slice s.A1 s.n1 s.c1) ∧ w.cell? ⟨g, i * 3 + 2, none⟩ = some (.slice s.A2 s.n2 s.c2) := by
  obtain ⟨vs, hl, ho, hi⟩ := h
  obtain ⟨A, c, hv, hc, hm, hg⟩ := row_form ho
  refine ⟨A, c, hv, hc, hm, fun i it hit => ?_⟩
  have hil : i < l.length := (List.getElem?_eq_some_iff.1 hit).1
  obtain ⟨g, hA, hb, hlt, hob, hcell⟩ := hg (by omega)
  have hvs : vs[i]? = some vs[i] := List.getElem?_eq_getElem (by omega)
  have hf : ∀ s : Sv, (s.cells k).length = 3 := fun _ => rfl
  refine ⟨g, vs[i], hA, hb, hlt, ?_, ?_, ?_, ?_⟩
  · have := hi i _ it hvs hit
    rw [hob] at this
    exact this.mono (fun b _ hn e => hn (by rw [e]))
  · have := hcell (i * 3 + 0) _ (by rw [flat_at _ 3 hf vs i _ 0 hvs (by omega)]; rfl)
    exact this
  · exact hcell (i * 3 + 1) _ (by rw [flat_at _ 3 hf vs i _ 1 hvs (by omega)]; rfl)
  · exact hcell (i * 3 + 2) _ (by rw [flat_at _ 3 hf vs i _ 2 hvs (by omega)]; rfl)

/-! ### rows of pointers to such structs -/
/-- A row of pointers, each to a struct in a block of its own that reads as its item; the bytes lie in blocks below B. -/
def Pvs (w : World) (B base : Nat) (e te : TypeId) (k : IntKind) (v : Value) (l : List SubIt) : Prop :=
  ∃ vs : List (Nat × Sv), vs.length = l.length ∧ w.ownsRow base e 1 v l.length (vs.map fun p => .pointer (some ⟨p.1, 0, none⟩)) ∧
    ∀ (i : Nat) (p : Nat × Sv) (it : SubIt), vs[i]? = some p → l[i]? = some it → v.ownBlock ≠ some p.1 ∧ base ≤ p.1 ∧ Blk w p.1 te (p.2.cells k) ∧ p.2.is (· < B) w it
theorem Pvs.nil (w : World) (B base : Nat) (e te : TypeId) (k : IntKind) : Pvs w B base e te k (.slice none 0 0) [] :=
  ⟨[], rfl, World.ownsRow_nil _ _ _ _, fun i s it h => by simp at h⟩
theorem Pvs.keep {w w' : World} {B base : Nat} {e te : TypeId} {k : IntKind} {v : Value} {l : List SubIt} (h : Pvs w B base e te k v l) (hc : Chg NoB w w') : Pvs w' B base e te k v l := by
  obtain ⟨vs, hl, ho, hi⟩ := h
  refine ⟨vs, hl, row_keep ho hc, fun i s it h1 h2 => ?_⟩
  obtain ⟨a, b, c, d⟩ := hi i s it h1 h2
  exact ⟨a, b, c.chg hc (fun e => e), d.chg hc (fun _ _ _ e => e)⟩
/-- What an append of one more pointer leaves. -/
theorem Pvs.snoc {w w1 : World} {B base : Nat} {e te : TypeId} {k : IntKind} {v v1 : Value} {l : List SubIt} {vs : List (Nat × Sv)} {p : Nat × Sv} {it : SubIt} (hB : B ≤ base)
    (hl : vs.length = l.length) (ho : w.ownsRow base e 1 v l.length (vs.map fun p => .pointer (some ⟨p.1, 0, none⟩)))
    (hi : ∀ (i : Nat) (p : Nat × Sv) (it : SubIt), vs[i]? = some p → l[i]? = some it → v.ownBlock ≠ some p.1 ∧ base ≤ p.1 ∧ Blk w p.1 te (p.2.cells k) ∧ p.2.is (· < B) w it)
    (hp : v.ownBlock ≠ some p.1 ∧ base ≤ p.1 ∧ Blk w p.1 te (p.2.cells k) ∧ p.2.is (· < B) w it)
    (h2 : w1.ownsRow base e 1 v1 (l.length + 1) ((vs.map fun p => Value.pointer (some ⟨p.1, 0, none⟩)) ++ [.pointer (some ⟨p.1, 0, none⟩)])) (h3 : w.grownBy w1 v.ownBlock) (h5 : v1.ownBlock = v.ownBlock ∨ v1.ownBlock = some w.heap.size) :
    Pvs w1 B base e te k v1 (l ++ [it]) := by
  have hf : ∀ (p : Nat × Sv) (it : SubIt), (v.ownBlock ≠ some p.1 ∧ base ≤ p.1 ∧ Blk w p.1 te (p.2.cells k) ∧ p.2.is (· < B) w it) → v1.ownBlock ≠ some p.1 ∧ base ≤ p.1 ∧ Blk w1 p.1 te (p.2.cells k) ∧ p.2.is (· < B) w1 it := fun p it ⟨a, b, c, d⟩ => by
    refine ⟨?_, b, c.chg (grown_chg h3) (fun e => a e), d.chg (grown_chg h3) (fun q _ hq e => ?_)⟩
    · rcases h5 with h5 | h5
      · rw [h5]; exact a
      · rw [h5]; intro e; injection e with e; have := c.lt; omega
    · have := (ho.lt q e).1
      omega
  refine ⟨vs ++ [p], by simp [hl], ?_, fun i x y hx hy => ?_⟩
  · rw [List.length_append, List.map_append]
    simpa using h2
  · rcases Nat.lt_or_ge i vs.length with h | h
    · rw [List.getElem?_append_left h] at hx
      rw [List.getElem?_append_left (by omega)] at hy
      exact hf _ _ (hi i x y hx hy)
    · rw [List.getElem?_append_right h] at hx
      rw [List.getElem?_append_right (by omega)] at hy
      rw [hl] at hx
      have : i - l.length = 0 := by
        rcases Nat.eq_zero_or_pos (i - l.length) with h0 | h0
        · exact h0
        · rw [List.getElem?_eq_none (by simp; omega)] at hx; cases hx
      rw [this] at hx hy
      simp at hx hy
      subst hx hy
      exact hf _ _ hp
/-- One pointer of the row. -/
theorem Pvs.at_ {w : World} {B base : Nat} {e te : TypeId} {k : IntKind} {v : Value} {l : List SubIt} (h : Pvs w B base e te k v l) :
    ∃ A c, v = .slice A l.length c ∧ l.length ≤ c ∧ l.length ≤ 9223372036854775807 ∧ ∀ (i : Nat) (it : SubIt), l[i]? = some it → ∃ (g p : Nat) (s : Sv), A = some ⟨g, 0, none⟩ ∧ w.cell? ⟨g, i, none⟩ = some (.pointer (some ⟨p, 0, none⟩)) ∧ Blk w p te (s.cells k) ∧ s.is (· < B) w it := by
  obtain ⟨vs, hl, ho, hi⟩ := h
  obtain ⟨A, c, hv, hc, hm, hg⟩ := row_form ho
  refine ⟨A, c, hv, hc, hm, fun i it hit => ?_⟩
  have hil : i < l.length := (List.getElem?_eq_some_iff.1 hit).1
  obtain ⟨g, hA, hb, hlt, hob, hcell⟩ := hg (by omega)
  have hvs : vs[i]? = some vs[i] := List.getElem?_eq_getElem (by omega)
  obtain ⟨_, _, hk, hs⟩ := hi i _ it hvs hit
  exact ⟨g, vs[i].1, vs[i].2, hA, hcell i _ (by simp [hvs]), hk, hs⟩
end Go.Proofs.YtlpningplmbnhaaDoor.V
