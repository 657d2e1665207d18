/- Words for memory, over any program: bytes that are read, rows that are owned, blocks that are known whole, frames. -/
import Derived.WalkKit
import Derived.Below
import Derived.Deep.Draws
import Derived.Deep.AppendLies
import Derived.Maps.AppendAt
import Derived.OwnWalk
import Derived.Laws.MakeOwn
import Derived.Laws.OwnMore
import Derived.Laws.CopyOwn
import Derived.Deep.OwnRows
import Derived.Tactics
import Derived.Laws.Slices
import Derived.KernelRfl
import Derived.RowKit3
import Derived.Deep.LoopGhost
import Derived.Deep.QuietTactic
import Derived.BigQuiet
import Derived.StillTailTactics
import Derived.Lib.Hide
set_option linter.unusedVariables false
set_option linter.unusedSimpArgs false
namespace Go.Proofs.YthnebljgnmggaaaDoor.V
open Go.RowKit

/-- A fact that the walk's simp doesn't look into. -/
structure As (p : Prop) : Prop where mk :: (out : p)

theorem add_lit0 (g j : Nat) : (⟨g, 0, none⟩ : Addr).add j = ⟨g, j, none⟩ := by unfold Addr.add; split <;> simp_all
theorem add_block (a : Addr) (n : Nat) : (a.add n).block = a.block := by unfold Addr.add; split <;> rfl
theorem add_add (a : Addr) (i j : Nat) : (a.add i).add j = a.add (i + j) := by
  unfold Addr.add
  by_cases hi : i = 0 <;> by_cases hj : j = 0 <;> simp [hi, hj, Nat.add_assoc]

/-! ### numbers -/
def nums (k : IntKind) (xs : List Int) : List Value := xs.map fun x => .int k x
def rd (xs : List Int) (i : Int) : Int := xs.getD i.toNat 0
theorem nums_length (k : IntKind) (xs : List Int) : (nums k xs).length = xs.length := by simp [nums]
theorem nums_append (k : IntKind) (xs ys : List Int) : nums k (xs ++ ys) = nums k xs ++ nums k ys := by simp [nums]
theorem nums_set (k : IntKind) (xs : List Int) (i : Nat) (x : Int) : (nums k xs).set i (.int k x) = nums k (xs.set i x) := by simp [nums, List.map_set]
theorem nums_one (k : IntKind) (xs : List Int) : ∀ u ∈ nums k xs, u.oneCell' = true := by
  intro u hu; simp only [nums, List.mem_map] at hu; obtain ⟨q, _, rfl⟩ := hu; rfl
theorem nums_at {k : IntKind} {xs : List Int} {j : Nat} {u : Value} (h : (nums k xs)[j]? = some u) : j < xs.length ∧ u = .int k (xs.getD j 0) := by
  have hj : j < xs.length := by
    rcases Nat.lt_or_ge j xs.length with h' | h'
    · exact h'
    · simp [nums, List.getElem?_eq_none h'] at h
  refine ⟨hj, ?_⟩
  simp [nums, List.getElem?_eq_getElem hj] at h
  simp [← h, List.getD_eq_getElem?_getD, List.getElem?_eq_getElem hj]
theorem nums_get {k : IntKind} {xs : List Int} {j : Nat} (hj : j < xs.length) : (nums k xs)[j]? = some (.int k (xs.getD j 0)) := by
  simp [nums, List.getElem?_eq_getElem hj, List.getD_eq_getElem?_getD]
/-- Every number of the list is a byte. -/
def Byt (xs : List Int) : Prop := ∀ x ∈ xs, 0 ≤ x ∧ x ≤ 255
theorem Byt.rd {xs : List Int} (h : Byt xs) (i : Int) : 0 ≤ rd xs i ∧ rd xs i ≤ 255 := by
  unfold V.rd
  rw [List.getD_eq_getElem?_getD]
  rcases Nat.lt_or_ge i.toNat xs.length with hj | hj
  · rw [List.getElem?_eq_getElem hj]; exact h _ (List.getElem_mem hj)
  · rw [List.getElem?_eq_none hj]; simp
theorem Byt.append {xs ys : List Int} (h : Byt xs) (h' : Byt ys) : Byt (xs ++ ys) := by
  intro x hx; rcases List.mem_append.1 hx with hx | hx
  · exact h x hx
  · exact h' x hx
theorem Byt.take {xs : List Int} (h : Byt xs) (n : Nat) : Byt (xs.take n) := fun x hx => h x (List.mem_of_mem_take hx)
theorem Byt.drop {xs : List Int} (h : Byt xs) (n : Nat) : Byt (xs.drop n) := fun x hx => h x (List.mem_of_mem_drop hx)
theorem Byt.nil : Byt [] := fun x hx => by cases hx

/-! ### frames: all blocks but those of S read as they did -/
structure Chg (S : Nat → Prop) (w w' : World) : Prop where
  os : w'.os = w.os
  tape : w'.tape = w.tape
  output : w'.output = w.output
  size : w.heap.size ≤ w'.heap.size
  block : ∀ k, k < w.heap.size → ¬ S k → w'.heap[k]? = w.heap[k]?
def NoB : Nat → Prop := fun _ => False
section
variable {S S' : Nat → Prop} {w w1 w2 : World}
theorem Chg.refl (S : Nat → Prop) (w : World) : Chg S w w := ⟨rfl, rfl, rfl, Nat.le_refl _, fun _ _ _ => rfl⟩
theorem Chg.trans (h : Chg S w w1) (k : Chg S' w1 w2) (hs : ∀ i, i < w.heap.size → S' i → S i) : Chg S w w2 :=
  ⟨k.os.trans h.os, k.tape.trans h.tape, k.output.trans h.output, Nat.le_trans h.size k.size,
    fun i hi hn => (k.block i (Nat.lt_of_lt_of_le hi h.size) (fun e => hn (hs i hi e))).trans (h.block i hi hn)⟩
theorem Chg.mono (h : Chg S w w1) (hs : ∀ i, i < w.heap.size → S i → S' i) : Chg S' w w1 :=
  ⟨h.os, h.tape, h.output, h.size, fun i hi hn => h.block i hi (fun e => hn (hs i hi e))⟩
theorem Chg.drewN (h : Chg S w w1) (n : Nat) : Chg S w (w1.drewN n) := ⟨h.os, h.tape, h.output, h.size, h.block⟩
theorem Chg.drew (h : Chg S w w1) : Chg S w w1.drew := ⟨h.os, h.tape, h.output, h.size, h.block⟩
theorem Chg.alloc (h : Chg S w w1) (o : Obj) : Chg S w (w1.alloc o) :=
  h.trans (S' := NoB) ⟨rfl, rfl, rfl, by simp, fun k hk _ => Below.heap_alloc _ _ _ hk⟩ (fun _ _ e => e.elim)
theorem Chg.setCell (h : Chg S w w1) {p : Addr} (u : Value) (hp : p.block < w.heap.size → S p.block) : Chg S w (w1.setCell p u) :=
  h.trans (S' := fun k => k = p.block) ⟨rfl, rfl, rfl, by simp [World.setCell], fun k hk hn => Below.heap_setCell _ _ _ _ hn⟩ (fun i hi e => by subst e; exact hp hi)
theorem Chg.grown {row : Option Nat} (h : Chg S w w1) (hg : w1.grownBy w2 row) (hr : ∀ k, k < w.heap.size → row = some k → S k) : Chg S w w2 :=
  h.trans (S' := fun k => row = some k) ⟨hg.os, hg.tape, hg.output, hg.size, fun k hk hn => hg.block k hk (fun e => hn e.symm)⟩ (fun i hi e => hr i hi e)
theorem Chg.of_below (h : Below w.heap.size w w1) : Chg NoB w w1 := ⟨h.os, h.tape, h.output, h.size, fun i hi _ => h.block i hi⟩
theorem Chg.then_below (h : Chg S w w1) (k : Below w1.heap.size w1 w2) : Chg S w w2 := h.trans (Chg.of_below k) (fun _ _ e => e.elim)
theorem Chg.below (h : Chg S w w1) {B : Nat} (hB : B ≤ w.heap.size) (hs : ∀ i, i < B → ¬ S i) : Below B w w1 :=
  ⟨h.os, h.tape, h.output, h.size, fun i hi => h.block i (Nat.lt_of_lt_of_le hi hB) (hs i hi)⟩
theorem Chg.cell (h : Chg S w w1) {p : Addr} (hp : p.block < w.heap.size) (hn : ¬ S p.block) : w1.cell? p = w.cell? p := World.cell?_of_block (w := w) (h.block p.block hp hn)
theorem Chg.frozen (h : Chg S w w1) {p : Addr} (hp : p.block < w.heap.size) (hn : ¬ S p.block) : w1.frozen? p = w.frozen? p := World.frozen?_of_block (w := w) (h.block p.block hp hn)
end

/-! ### a block that is known whole -/
def Blk (w : World) (g : Nat) (t : TypeId) (cs : List Value) : Prop := w.heap[g]? = some (.cells cs.toArray t (0, 0))
section
variable {w w' : World} {g : Nat} {t : TypeId} {cs : List Value}
theorem Blk.lt (h : Blk w g t cs) : g < w.heap.size := by
  rcases Nat.lt_or_ge g w.heap.size with hlt | hge
  · exact hlt
  · unfold Blk at h; rw [Array.getElem?_eq_none hge] at h; cases h
theorem Blk.cell (h : Blk w g t cs) (i : Nat) : w.cell? ⟨g, i, none⟩ = cs[i]? := by
  rw [cell_of_row w g i cs.toArray t (0, 0) h]; simp
theorem Blk.frozen (h : Blk w g t cs) (i : Nat) : w.frozen? ⟨g, i, none⟩ = false := by
  unfold Blk at h
  simp [World.frozen?, h]
theorem Blk.new (w : World) (t : TypeId) (cs : List Value) : Blk (w.alloc (.cells cs.toArray t)) w.heap.size t cs := heap_alloc_new w _
theorem Blk.drewN (h : Blk w g t cs) (n : Nat) : Blk (w.drewN n) g t cs := h
theorem Blk.drew (h : Blk w g t cs) : Blk w.drew g t cs := h
theorem Blk.alloc (h : Blk w g t cs) (o : Obj) : Blk (w.alloc o) g t cs := (Below.heap_alloc w o g h.lt).trans h
theorem Blk.set_ (h : Blk w g t cs) (i : Nat) (u : Value) : Blk (w.setCell ⟨g, i, none⟩ u) g t (cs.set i u) := by
  unfold Blk at h ⊢
  simp [World.setCell, Array.getElem?_modify, h]
theorem Blk.far (h : Blk w g t cs) {p : Addr} (hp : g ≠ p.block) (u : Value) : Blk (w.setCell p u) g t cs := (Below.heap_setCell w p u g hp).trans h
theorem Blk.chg {S : Nat → Prop} (h : Blk w g t cs) (hc : Chg S w w') (hg : ¬ S g) : Blk w' g t cs := (hc.block g h.lt hg).trans h
theorem Blk.below {B : Nat} (h : Blk w g t cs) (hb : Below B w w') (hg : g < B) : Blk w' g t cs := (hb.block g hg).trans h
end

/-! ### bytes that are read -/
def Rk (k : IntKind) (w : World) (A : Option Addr) (xs : List Int) : Prop :=
  xs.length ≤ 9223372036854775807 ∧ (0 < xs.length → ∃ ad, A = some ad ∧ ad.block < w.heap.size ∧ ∀ j, j < xs.length → w.cell? (ad.add j) = some (.int k (xs.getD j 0)))
abbrev Rb := Rk .u8
section
variable {k : IntKind} {w w' : World} {A : Option Addr} {xs : List Int}
theorem Rk.none_ : Rk k w A [] := ⟨by simp, fun h => absurd h (by simp)⟩
theorem Rk.at_ (h : Rk k w A xs) (i : Int) (h0 : 0 ≤ i) (h1 : i < (xs.length : Int)) : ∃ ad, A = some ad ∧ w.cell? (ad.add i.toNat) = some (.int k (rd xs i)) := by
  obtain ⟨ad, e, _, hc⟩ := h.2 (by omega)
  exact ⟨ad, e, hc _ (by omega)⟩
theorem Rk.chg {S : Nat → Prop} (h : Rk k w A xs) (hc : Chg S w w') (hs : ∀ ad, A = some ad → ad.block < w.heap.size → ¬ S ad.block) : Rk k w' A xs :=
  ⟨h.1, fun hn => by
    obtain ⟨ad, e, hb, hcell⟩ := h.2 hn
    exact ⟨ad, e, Nat.lt_of_lt_of_le hb hc.size, fun j hj => (hc.cell (p := ad.add j) (by rw [add_block]; exact hb) (by rw [add_block]; exact hs ad e hb)).trans (hcell j hj)⟩⟩
theorem Rk.keep (h : Rk k w A xs) (hc : Chg NoB w w') : Rk k w' A xs := h.chg hc (fun _ _ _ e => e)
theorem Rk.below (h : Rk k w A xs) (hb : Below w.heap.size w w') : Rk k w' A xs := h.keep (Chg.of_below hb)
theorem Rk.drewN (h : Rk k w A xs) (n : Nat) : Rk k (w.drewN n) A xs := h
theorem Rk.drew (h : Rk k w A xs) : Rk k w.drew A xs := h
theorem Rk.alloc (h : Rk k w A xs) (o : Obj) : Rk k (w.alloc o) A xs := h.keep ((Chg.refl _ _).alloc o)
theorem Rk.take_ (h : Rk k w A xs) (i : Nat) : Rk k w A (xs.take i) := by
  refine ⟨by rw [List.length_take]; have := h.1; omega, fun hp => ?_⟩
  rw [List.length_take] at hp
  obtain ⟨ad, e, hb, hc⟩ := h.2 (by omega)
  refine ⟨ad, e, hb, fun j hj => ?_⟩
  rw [List.length_take] at hj
  rw [hc j (by omega)]
  simp [List.getD_eq_getElem?_getD, show j < i by omega]
theorem Rk.drop_ (h : Rk k w A xs) (i : Nat) : Rk k w (A.map (·.add i)) (xs.drop i) := by
  refine ⟨by rw [List.length_drop]; have := h.1; omega, fun hp => ?_⟩
  rw [List.length_drop] at hp
  obtain ⟨ad, rfl, hb, hcell⟩ := h.2 (by omega)
  refine ⟨ad.add i, rfl, by rw [add_block]; exact hb, fun j hj => ?_⟩
  rw [List.length_drop] at hj
  rw [add_add, hcell (i + j) (by omega)]
  simp [List.getD_eq_getElem?_getD, List.getElem?_drop]
theorem Rk.drop_if (h : Rk k w A xs) (i c : Nat) (hc : xs.length ≤ c) : Rk k w (if c = i then A else A.map (·.add i)) (xs.drop i) := by
  by_cases e : c = i
  · rw [if_pos e, List.drop_eq_nil_of_le (by omega)]; exact Rk.none_
  · rw [if_neg e]; exact h.drop_ i
theorem Rk.news (h : Rk k w A xs) {ad : Addr} (e : A = some ad) : ∀ j u, (nums k xs)[j]? = some u → w.cell? (ad.add j) = some u := by
  intro j u hu
  obtain ⟨hj, rfl⟩ := nums_at hu
  obtain ⟨ad', e', _, hc⟩ := h.2 (by omega)
  rw [e] at e'; injection e' with e'; subst e'
  exact hc j hj
end

/-! ### rows of the call's own -/
abbrev Own (w : World) (base : Nat) (e : TypeId) (k : IntKind) (v : Value) (xs : List Int) : Prop := w.ownsRow base e 1 v xs.length (nums k xs)
theorem own_form {w : World} {base : Nat} {e : TypeId} {k : IntKind} {v : Value} {xs : List Int} (h : Own w base e k v xs) :
    ∃ A c, v = .slice A xs.length c ∧ xs.length ≤ c ∧ Rk k w A xs ∧ (∀ ad, A = some ad → base ≤ ad.block ∧ ad.block < w.heap.size) := by
  rcases h.2 with ⟨rfl, h0⟩ | ⟨g, cap, cur, rfl, hb, hg, hn, hm, hs, htake⟩
  · have : xs = [] := List.eq_nil_of_length_eq_zero h0
    subst this
    exact ⟨none, 0, rfl, by simp, Rk.none_, fun ad e => by cases e⟩
  · have hlt : g < w.heap.size := (Array.getElem?_eq_some_iff.1 hg).1
    refine ⟨_, cap, rfl, hn, ⟨by simp only [maxLen] at hm; omega, fun hp => ⟨_, rfl, hlt, fun j hj => ?_⟩⟩, fun ad e => by injection e with e; subst e; exact ⟨hb, hlt⟩⟩
    exact h.cells (g := g) rfl j _ (nums_get hj)
theorem own_chg {w w' : World} {S : Nat → Prop} {base : Nat} {e : TypeId} {k : IntKind} {v : Value} {xs : List Int} (h : Own w base e k v xs) (hc : Chg S w w') (hs : ∀ b, v.ownBlock = some b → ¬ S b) : Own w' base e k v xs := by
  refine ⟨h.1, ?_⟩
  rcases h.2 with hn | ⟨g, cap, cur, rfl, hb, hg, hn, hm, hsz, htake⟩
  · exact .inl hn
  · exact .inr ⟨g, cap, cur, rfl, hb, (hc.block g (Array.getElem?_eq_some_iff.1 hg).1 (hs g (by simp [Value.ownBlock]))).trans hg, hn, hm, hsz, htake⟩
theorem own_keep {w w' : World} {base : Nat} {e : TypeId} {k : IntKind} {v : Value} {xs : List Int} (h : Own w base e k v xs) (hc : Chg NoB w w') : Own w' base e k v xs := own_chg h hc (fun _ _ e => e)
theorem own_lower {w : World} {base base' : Nat} {e : TypeId} {k : IntKind} {v : Value} {xs : List Int} (h : Own w base e k v xs) (hb : base' ≤ base) : Own w base' e k v xs := by
  refine ⟨h.1, ?_⟩
  rcases h.2 with hn | ⟨g, cap, cur, rfl, hb', r⟩
  · exact .inl hn
  · exact .inr ⟨g, cap, cur, rfl, Nat.le_trans hb hb', r⟩
theorem own_nil (w : World) (base : Nat) (e : TypeId) (k : IntKind) : Own w base e k (.slice none 0 0) [] := World.ownsRow_nil w base e 1
theorem own_lit (w : World) (base : Nat) (e : TypeId) (k : IntKind) (xs : List Int) (hb : base ≤ w.heap.size) (hm : xs.length ≤ maxLen) :
    Own (w.alloc (.cells (nums k xs).toArray e)) base e k (.slice (some ⟨w.heap.size, 0, none⟩) xs.length xs.length) xs := by
  have h := World.ownsRow_lit (base := base) (e := e) (size := 1) w (nums k xs).toArray xs.length hb hm (by simp [nums])
  simpa using h
theorem own_made (w : World) (base : Nat) (e : TypeId) (k : IntKind) (m : Nat) (hb : base ≤ w.heap.size) (hm : m ≤ maxLen) :
    Own (w.alloc (.cells (madeCells #[.int k 0] m) e)) base e k (.slice (some ⟨w.heap.size, 0, none⟩) m m) (List.replicate m 0) := by
  have h := World.ownsRow_lit (base := base) (e := e) (size := 1) w (madeCells #[.int k 0] m) m hb hm (by simp [size_madeCells])
  have hl : (madeCells #[Value.int k 0] m).toList = nums k (List.replicate m 0) := by rw [toList_madeCells_one]; simp [nums]
  rw [hl] at h
  unfold Own
  rw [List.length_replicate]
  exact h
theorem own_block_lt {w : World} {base : Nat} {e : TypeId} {k : IntKind} {v : Value} {xs : List Int} (h : Own w base e k v xs) : ∀ b, v.ownBlock = some b → base ≤ b ∧ b < w.heap.size := h.lt

end Go.Proofs.YthnebljgnmggaaaDoor.V
