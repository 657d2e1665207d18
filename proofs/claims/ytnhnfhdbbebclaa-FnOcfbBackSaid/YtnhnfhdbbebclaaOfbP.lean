/- Plain words for OpenPGP's feedback mode, byte by byte. -/
import Derived.Test.YtnhnfhdbbebclaaPermP
set_option linter.unusedVariables false
set_option linter.unusedSimpArgs false
namespace Go.Proofs.Ytnhnfhdbbebclaa.V
open Go.RowKit
section
variable (E : List Int → List Int) (n : Nat)
/-- The register, filled anew where it is used up. -/
def ofS (st : List Int × Nat) : List Int × Nat := if st.2 = n then (E st.1, 0) else st
def ofC (st : List Int × Nat) (p : Int) : Int := Go.bits .xor .u8 ((ofS E n st).1.getD (ofS E n st).2 0) p
/-- Behind a byte c of the ciphertext. -/
def ofN (st : List Int × Nat) (c : Int) : List Int × Nat := ((ofS E n st).1.set (ofS E n st).2 c, (ofS E n st).2 + 1)
def runE : List Int × Nat → List Int → List Int × Nat
  | st, [] => st
  | st, p :: ps => runE (ofN E n st (ofC E n st p)) ps
def outE : List Int × Nat → List Int → List Int
  | _, [] => []
  | st, p :: ps => ofC E n st p :: outE (ofN E n st (ofC E n st p)) ps
def runD : List Int × Nat → List Int → List Int × Nat
  | st, [] => st
  | st, c :: cs => runD (ofN E n st c) cs
def outD : List Int × Nat → List Int → List Int
  | _, [] => []
  | st, c :: cs => ofC E n st c :: outD (ofN E n st c) cs
end
/-- A state that may be. -/
def OkS (n : Nat) (st : List Int × Nat) : Prop := st.1.length = n ∧ Byt st.1 ∧ st.2 ≤ n
section
variable {E : List Int → List Int} {n : Nat}
theorem okS_S (hE : ∀ x, (E x).length = n) (hb : ∀ x, Byt (E x)) (h1 : 1 ≤ n) {st : List Int × Nat} (h : OkS n st) : OkS n (ofS E n st) ∧ (ofS E n st).2 < n := by
  unfold ofS
  by_cases e : st.2 = n
  · rw [if_pos e]; exact ⟨⟨hE _, hb _, by simp⟩, by simp; omega⟩
  · rw [if_neg e]; exact ⟨h, by have := h.2.2; omega⟩
theorem ofC_byte (hE : ∀ x, (E x).length = n) (hb : ∀ x, Byt (E x)) (h1 : 1 ≤ n) {st : List Int × Nat} (h : OkS n st) {p : Int} (hp : 0 ≤ p ∧ p ≤ 255) : 0 ≤ ofC E n st p ∧ ofC E n st p ≤ 255 :=
  bx_range _ _ ((okS_S hE hb h1 h).1.2.1.getD _) hp
theorem okS_N (hE : ∀ x, (E x).length = n) (hb : ∀ x, Byt (E x)) (h1 : 1 ≤ n) {st : List Int × Nat} (h : OkS n st) {c : Int} (hc : 0 ≤ c ∧ c ≤ 255) : OkS n (ofN E n st c) := by
  obtain ⟨⟨a1, a2, _⟩, a4⟩ := okS_S hE hb h1 h
  refine ⟨by unfold ofN; rw [List.length_set]; exact a1, ?_, by unfold ofN; simp; omega⟩
  intro x hx
  rcases List.mem_or_eq_of_mem_set hx with h2 | h2
  · exact a2 x h2
  · rw [h2]; exact hc
theorem outE_length : ∀ (ps : List Int) (st : List Int × Nat), (outE E n st ps).length = ps.length
  | [], _ => rfl
  | p :: ps, st => by simp [outE, outE_length ps]
theorem outD_length : ∀ (ps : List Int) (st : List Int × Nat), (outD E n st ps).length = ps.length
  | [], _ => rfl
  | p :: ps, st => by simp [outD, outD_length ps]
theorem outE_byt (hE : ∀ x, (E x).length = n) (hb : ∀ x, Byt (E x)) (h1 : 1 ≤ n) : ∀ (ps : List Int) (st : List Int × Nat), OkS n st → Byt ps → Byt (outE E n st ps)
  | [], _, _, _ => Byt.nil
  | p :: ps, st, h, bp => by
    have hc := ofC_byte hE hb h1 h (bp p (List.mem_cons_self ..))
    intro x hx
    rcases List.mem_cons.1 hx with rfl | hx
    · exact hc
    · exact outE_byt hE hb h1 ps _ (okS_N hE hb h1 h hc) (fun y hy => bp y (List.mem_cons_of_mem _ hy)) x hx
theorem outD_byt (hE : ∀ x, (E x).length = n) (hb : ∀ x, Byt (E x)) (h1 : 1 ≤ n) : ∀ (ps : List Int) (st : List Int × Nat), OkS n st → Byt ps → Byt (outD E n st ps)
  | [], _, _, _ => Byt.nil
  | p :: ps, st, h, bp => by
    have hp := bp p (List.mem_cons_self ..)
    have hc := ofC_byte hE hb h1 h hp
    intro x hx
    rcases List.mem_cons.1 hx with rfl | hx
    · exact hc
    · exact outD_byt hE hb h1 ps _ (okS_N hE hb h1 h hp) (fun y hy => bp y (List.mem_cons_of_mem _ hy)) x hx
theorem okS_runE (hE : ∀ x, (E x).length = n) (hb : ∀ x, Byt (E x)) (h1 : 1 ≤ n) : ∀ (ps : List Int) (st : List Int × Nat), OkS n st → Byt ps → OkS n (runE E n st ps)
  | [], _, h, _ => h
  | p :: ps, st, h, bp => okS_runE hE hb h1 ps _ (okS_N hE hb h1 h (ofC_byte hE hb h1 h (bp p (List.mem_cons_self ..)))) (fun y hy => bp y (List.mem_cons_of_mem _ hy))
theorem okS_runD (hE : ∀ x, (E x).length = n) (hb : ∀ x, Byt (E x)) (h1 : 1 ≤ n) : ∀ (ps : List Int) (st : List Int × Nat), OkS n st → Byt ps → OkS n (runD E n st ps)
  | [], _, h, _ => h
  | p :: ps, st, h, bp => okS_runD hE hb h1 ps _ (okS_N hE hb h1 h (bp p (List.mem_cons_self ..))) (fun y hy => bp y (List.mem_cons_of_mem _ hy))
theorem outE_append : ∀ (xs ys : List Int) (st : List Int × Nat), outE E n st (xs ++ ys) = outE E n st xs ++ outE E n (runE E n st xs) ys
  | [], _, _ => rfl
  | x :: xs, ys, st => by simp [outE, runE, outE_append xs ys]
theorem runE_append : ∀ (xs ys : List Int) (st : List Int × Nat), runE E n st (xs ++ ys) = runE E n (runE E n st xs) ys
  | [], _, _ => rfl
  | x :: xs, ys, st => by simp [runE, runE_append xs ys]
theorem outD_append : ∀ (xs ys : List Int) (st : List Int × Nat), outD E n st (xs ++ ys) = outD E n st xs ++ outD E n (runD E n st xs) ys
  | [], _, _ => rfl
  | x :: xs, ys, st => by simp [outD, runD, outD_append xs ys]
theorem runD_append : ∀ (xs ys : List Int) (st : List Int × Nat), runD E n st (xs ++ ys) = runD E n (runD E n st xs) ys
  | [], _, _ => rfl
  | x :: xs, ys, st => by simp [runD, runD_append xs ys]
/-- What was enciphered is deciphered as it was. -/
theorem outD_outE (hE : ∀ x, (E x).length = n) (hb : ∀ x, Byt (E x)) (h1 : 1 ≤ n) : ∀ (ps : List Int) (st : List Int × Nat), OkS n st → Byt ps → outD E n st (outE E n st ps) = ps
  | [], _, _, _ => rfl
  | p :: ps, st, h, bp => by
    have hp := bp p (List.mem_cons_self ..)
    have hc := ofC_byte hE hb h1 h hp
    have hq := (okS_S hE hb h1 h).1.2.1.getD (ofS E n st).2
    have e : ofC E n st (ofC E n st p) = p := by
      unfold ofC
      rw [← bx_assoc _ _ _ hq hq hp, bx_self _ hq, bx_comm _ _ (by omega) hp, bx_zero _ hp]
    rw [outE, outD, e, outD_outE hE hb h1 ps _ (okS_N hE hb h1 h hc) (fun y hy => bp y (List.mem_cons_of_mem _ hy))]
/-- One byte more. -/
theorem outE_step {xs : List Int} {k : Nat} (hk : k < xs.length) (st : List Int × Nat) : outE E n st (xs.take (k + 1)) = outE E n st (xs.take k) ++ [ofC E n (runE E n st (xs.take k)) (xs.getD k 0)] ∧
    runE E n st (xs.take (k + 1)) = ofN E n (runE E n st (xs.take k)) (ofC E n (runE E n st (xs.take k)) (xs.getD k 0)) := by
  have hg : xs.getD k 0 = xs[k] := by simp [List.getD_eq_getElem?_getD, List.getElem?_eq_getElem hk]
  rw [List.take_succ_eq_append_getElem hk, outE_append, runE_append, hg]
  exact ⟨rfl, rfl⟩
theorem outD_step {xs : List Int} {k : Nat} (hk : k < xs.length) (st : List Int × Nat) : outD E n st (xs.take (k + 1)) = outD E n st (xs.take k) ++ [ofC E n (runD E n st (xs.take k)) (xs.getD k 0)] ∧
    runD E n st (xs.take (k + 1)) = ofN E n (runD E n st (xs.take k)) (xs.getD k 0) := by
  have hg : xs.getD k 0 = xs[k] := by simp [List.getD_eq_getElem?_getD, List.getElem?_eq_getElem hk]
  rw [List.take_succ_eq_append_getElem hk, outD_append, runD_append, hg]
  exact ⟨rfl, rfl⟩
/-- A row that is being written from its beginning on. -/
theorem set_front {xs zs : List Int} {k : Nat} (hk : xs.length = k) (hz : k < zs.length) (c : Int) : (xs ++ zs.drop k).set k c = (xs ++ [c]) ++ zs.drop (k + 1) := by
  rw [List.set_append_right _ _ (by omega), hk, Nat.sub_self]
  rw [List.drop_eq_getElem_cons hz, List.set_cons_zero, List.append_assoc]
  rfl
end
end Go.Proofs.Ytnhnfhdbbebclaa.V
