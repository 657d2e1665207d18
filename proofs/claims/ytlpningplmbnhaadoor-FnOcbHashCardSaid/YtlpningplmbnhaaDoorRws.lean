/- Words for rows of slices of bytes. -/
import Derived.Test.YtlpningplmbnhaaDoorRow
import Derived.Test.YtlpningplmbnhaaDoorBrief
set_option linter.unusedVariables false
set_option linter.unusedSimpArgs false
namespace Go.Proofs.YtlpningplmbnhaaDoor.V
open Go.RowKit
abbrev Sl := Option Addr × Nat × Nat
def slV (p : Sl) : Value := .slice p.1 p.2.1 p.2.2
/-- One slice that reads as xs, its address in a block of K. -/
def Pz (K : Nat → Prop) (w : World) (p : Sl) (xs : List Int) : Prop :=
  p.2.1 = xs.length ∧ xs.length ≤ p.2.2 ∧ Rb w p.1 xs ∧ ∀ ad, p.1 = some ad → K ad.block ∧ ad.block < w.heap.size
theorem Pz.chg {K S : Nat → Prop} {w w' : World} {p : Sl} {xs : List Int} (h : Pz K w p xs) (hc : Chg S w w') (hs : ∀ b, b < w.heap.size → K b → ¬ S b) : Pz K w' p xs :=
  ⟨h.1, h.2.1, h.2.2.1.chg hc (fun ad e hb => hs _ hb (h.2.2.2 ad e).1), fun ad e => ⟨(h.2.2.2 ad e).1, Nat.lt_of_lt_of_le (h.2.2.2 ad e).2 hc.size⟩⟩
theorem Pz.mono {K K' : Nat → Prop} {w : World} {p : Sl} {xs : List Int} (h : Pz K w p xs) (hk : ∀ b, b < w.heap.size → K b → K' b) : Pz K' w p xs :=
  ⟨h.1, h.2.1, h.2.2.1, fun ad e => ⟨hk _ (h.2.2.2 ad e).2 (h.2.2.2 ad e).1, (h.2.2.2 ad e).2⟩⟩
/-- A slice of slices that reads as some lists. -/
def Rrs (w : World) (A : Option Addr) (vs : List Sl) (xss : List (List Int)) : Prop :=
  Rs w A vs ∧ vs.length = xss.length ∧ ∀ j (h : j < vs.length) (h' : j < xss.length), vs[j].2.1 = xss[j].length ∧ Rb w vs[j].1 xss[j]
theorem Rrs.keep {w w' : World} {A : Option Addr} {vs : List Sl} {xss : List (List Int)} (h : Rrs w A vs xss) (hc : Chg NoB w w') : Rrs w' A vs xss :=
  ⟨h.1.chg hc (fun _ _ _ e => e), h.2.1, fun j h1 h2 => ⟨(h.2.2 j h1 h2).1, (h.2.2 j h1 h2).2.keep hc⟩⟩
theorem flat_take {xss : List (List Int)} {k : Nat} (h : k < xss.length) : (xss.take (k + 1)).flatten = (xss.take k).flatten ++ xss[k] := by
  rw [List.take_add_one, List.getElem?_eq_getElem h, List.flatten_append]
  simp only [Option.toList_some, List.flatten_cons, List.flatten_nil, List.append_nil]
theorem flat_take_le (xss : List (List Int)) (k : Nat) : (xss.take k).flatten.length ≤ xss.flatten.length := by
  have h : xss.flatten = (xss.take k).flatten ++ (xss.drop k).flatten := by rw [← List.flatten_append, List.take_append_drop]
  rw [h, List.length_append]
  omega
/-- A row of the call's own, of slices: each reads as its list and lies in a block of K, none in the row's own. -/
def Rws (K : Nat → Prop) (w : World) (base : Nat) (e : TypeId) (v : Value) (l : List (List Int)) : Prop :=
  ∃ vs : List Sl, vs.length = l.length ∧ w.ownsRow base e 1 v l.length (vs.map slV) ∧ ∀ (i : Nat) (p : Sl) (xs : List Int), vs[i]? = some p → l[i]? = some xs → Pz (fun b => K b ∧ v.ownBlock ≠ some b) w p xs
theorem Rws.nil (K : Nat → Prop) (w : World) (base : Nat) (e : TypeId) : Rws K w base e (.slice none 0 0) [] :=
  ⟨[], rfl, World.ownsRow_nil _ _ _ _, fun i s it h => by simp at h⟩
theorem Rws.lt {K : Nat → Prop} {w : World} {base : Nat} {e : TypeId} {v : Value} {l : List (List Int)} (h : Rws K w base e v l) : ∀ b, v.ownBlock = some b → base ≤ b ∧ b < w.heap.size := by
  obtain ⟨_, _, ho, _⟩ := h
  exact fun b hb => ho.lt b hb
theorem Rws.chg {K S : Nat → Prop} {w w' : World} {base : Nat} {e : TypeId} {v : Value} {l : List (List Int)} (h : Rws K w base e v l) (hc : Chg S w w') (hv : ∀ b, base ≤ b → b < w.heap.size → v.ownBlock = some b → ¬ S b) (hs : ∀ b, b < w.heap.size → K b → ¬ S b) : Rws K w' base e v l := by
  have hlt := h.lt
  obtain ⟨vs, hl, ho, hi⟩ := h
  exact ⟨vs, hl, row_chg ho hc (fun b hb => hv b (hlt b hb).1 (hlt b hb).2 hb), fun i p xs h1 h2 => (hi i p xs h1 h2).chg hc (fun b hb hk => hs b hb hk.1)⟩
theorem Rws.keep {K : Nat → Prop} {w w' : World} {base : Nat} {e : TypeId} {v : Value} {l : List (List Int)} (h : Rws K w base e v l) (hc : Chg NoB w w') : Rws K w' base e v l := h.chg hc (fun _ _ _ _ e => e) (fun _ _ _ e => e)
theorem Rws.lower {K : Nat → Prop} {w : World} {base base' : Nat} {e : TypeId} {v : Value} {l : List (List Int)} (h : Rws K w base e v l) (hb : base' ≤ base) : Rws K w base' e v l := by
  obtain ⟨vs, hl, ho, hi⟩ := h
  refine ⟨vs, hl, ⟨ho.1, ?_⟩, hi⟩
  rcases ho.2 with hn | ⟨g, cap, cur, rfl, hb', r⟩
  · exact .inl hn
  · exact .inr ⟨g, cap, cur, rfl, Nat.le_trans hb hb', r⟩
theorem Rws.mono {K K' : Nat → Prop} {w : World} {base : Nat} {e : TypeId} {v : Value} {l : List (List Int)} (h : Rws K w base e v l) (hk : ∀ b, b < w.heap.size → K b → K' b) : Rws K' w base e v l := by
  obtain ⟨vs, hl, ho, hi⟩ := h
  exact ⟨vs, hl, ho, fun i p xs h1 h2 => (hi i p xs h1 h2).mono (fun b hb hk' => ⟨hk b hb hk'.1, hk'.2⟩)⟩
/-- What an append of one more slice leaves. -/
theorem Rws.snoc {K : Nat → Prop} {w w1 : World} {base : Nat} {e : TypeId} {v v1 : Value} {l : List (List Int)} {vs : List Sl} {p : Sl} {xs : List Int}
    (hl : vs.length = l.length) (ho : w.ownsRow base e 1 v l.length (vs.map slV)) (hi : ∀ (i : Nat) (p : Sl) (xs : List Int), vs[i]? = some p → l[i]? = some xs → Pz (fun b => K b ∧ v.ownBlock ≠ some b) w p xs)
    (hs : Pz (fun b => K b ∧ v.ownBlock ≠ some b) w p xs)
    (h2 : w1.ownsRow base e 1 v1 (l.length + 1) (vs.map slV ++ [slV p])) (h3 : w.grownBy w1 v.ownBlock) (h5 : v1.ownBlock = v.ownBlock ∨ v1.ownBlock = some w.heap.size) :
    Rws K w1 base e v1 (l ++ [xs]) := by
  have hf : ∀ (p : Sl) (xs : List Int), Pz (fun b => K b ∧ v.ownBlock ≠ some b) w p xs → Pz (fun b => K b ∧ v1.ownBlock ≠ some b) w1 p xs := fun p xs h =>
    ((h.mono (K' := fun b => (K b ∧ v.ownBlock ≠ some b) ∧ b < w.heap.size) (fun b hb hn => ⟨hn, hb⟩)).chg (grown_chg h3) (fun b hb hn e => hn.1.2 e)).mono (fun b hb hn => by
      refine ⟨hn.1.1, ?_⟩
      rcases h5 with h5 | h5
      · rw [h5]; exact hn.1.2
      · rw [h5]; intro e; injection e with e; have := hn.2; omega)
  refine ⟨vs ++ [p], by simp [hl], ?_, fun i x y hx hy => ?_⟩
  · rw [List.length_append, List.map_append]
    simpa using h2
  · rcases Nat.lt_or_ge i vs.length with h | h
    · rw [List.getElem?_append_left h] at hx
      rw [List.getElem?_append_left (by omega)] at hy
      exact hf _ _ (hi i x y hx hy)
    · rw [List.getElem?_append_right h] at hx
      rw [List.getElem?_append_right (by omega)] at hy
      rw [hl] at hx
      have : i - l.length = 0 := by
        rcases Nat.eq_zero_or_pos (i - l.length) with h0 | h0
        · exact h0
        · rw [List.getElem?_eq_none (by simp; omega)] at hx; cases hx
      rw [this] at hx hy
      simp at hx hy
      subst hx hy
      exact hf _ _ hs
/-- The row as it is read. -/
theorem Rws.row {K : Nat → Prop} {w : World} {base : Nat} {e : TypeId} {v : Value} {l : List (List Int)} (h : Rws K w base e v l) (hm : l.length ≤ 9223372036854775806) :
    ∃ A c vs, v = .slice A l.length c ∧ l.length ≤ c ∧ Rrs w A vs l ∧ (∀ j (h : j < vs.length) (h' : j < l.length), Pz K w vs[j] l[j]) ∧ (0 < l.length → ∃ g, A = some ⟨g, 0, none⟩ ∧ base ≤ g ∧ g < w.heap.size) ∧ (∀ ad, A = some ad → ad.block < w.heap.size) := by
  obtain ⟨vs, hl, ho, hi⟩ := h
  obtain ⟨A, c, hv, hc, _, hg⟩ := row_form ho
  have hp : ∀ j (h : j < vs.length) (h' : j < l.length), Pz (fun b => K b ∧ v.ownBlock ≠ some b) w vs[j] l[j] := fun j h h' => hi j _ _ (List.getElem?_eq_getElem h) (List.getElem?_eq_getElem h')
  refine ⟨A, c, vs, hv, hc, ⟨⟨by omega, fun hn => ?_⟩, hl, fun j h h' => ⟨(hp j h h').1, (hp j h h').2.2.1⟩⟩, fun j h h' => (hp j h h').mono (fun b _ hk => hk.1), fun hn => ?_, fun ad e => (ho.lt ad.block (by rw [hv, e]; rfl)).2⟩
  · obtain ⟨g, hA, hb, hlt, hob, hcell⟩ := hg (by omega)
    exact ⟨_, hA, hlt, fun j h => by rw [add_lit0]; exact hcell j _ (by rw [List.getElem?_map, List.getElem?_eq_getElem h]; rfl)⟩
  · obtain ⟨g, hA, hb, hlt, _⟩ := hg hn
    exact ⟨g, hA, hb, hlt⟩
end Go.Proofs.YtlpningplmbnhaaDoor.V
namespace Go.Proofs.YtlpningplmbnhaaDoor
open Go.RowKit V
theorem infoRow : (Tryd.prog.info? 22).map (fun i => (i.zero, i.size, i.bytes)) = some (some (.slice none 0 0), 1, 24) := by kernel_rfl
end Go.Proofs.YtlpningplmbnhaaDoor
