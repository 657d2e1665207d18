/- Plain words for the prefix of OpenPGP's feedback mode. -/
import Derived.Test.YtnhnfhdbbebclaaOfbP
import Derived.Test.YtnhnfhdbbebclaaXorB
import Derived.Test.YtnhnfhdbbebclaaSplw
set_option linter.unusedVariables false
set_option linter.unusedSimpArgs false
namespace Go.Proofs.Ytnhnfhdbbebclaa.V
open Go.RowKit
section
variable (E : List Int → List Int) (n : Nat)
def ofZ : List Int := E (List.replicate n 0)
/-- The prefix after k rounds of the loop. -/
def pAt (rand : List Int) (k : Nat) : List Int := tab (n + 2) fun j => if j < k then Go.bits .xor .u8 (rand.getD j 0) ((ofZ E n).getD j 0) else 0
/-- The first bytes that are enciphered. -/
def pre1 (rand : List Int) : List Int := tab n fun j => Go.bits .xor .u8 (rand.getD j 0) ((ofZ E n).getD j 0)
def ofPre (rand : List Int) : List Int := pre1 E n rand ++ [Go.bits .xor .u8 ((E (pre1 E n rand)).getD 0 0) (rand.getD (n - 2) 0), Go.bits .xor .u8 ((E (pre1 E n rand)).getD 1 0) (rand.getD (n - 1) 0)]
/-- The state behind a prefix. -/
def ofSt (pre : List Int) (resync : Bool) : List Int × Nat := if resync then (E (pre.drop 2), 0) else (((E (pre.take n)).set 0 (pre.getD n 0)).set 1 (pre.getD (n + 1) 0), 2)
/-- The prefix deciphered. -/
def unPre (pre : List Int) : List Int := pre1 E n (pre.take n) ++ [Go.bits .xor .u8 (pre.getD n 0) ((E (pre.take n)).getD 0 0), Go.bits .xor .u8 (pre.getD (n + 1) 0) ((E (pre.take n)).getD 1 0)]
end
section
variable {E : List Int → List Int} {n : Nat}
theorem pre1_length (rand : List Int) : (pre1 E n rand).length = n := tab_length _ _
theorem pre1_byt (hb : ∀ x, Byt (E x)) {rand : List Int} (br : Byt rand) : Byt (pre1 E n rand) := tab_byt fun i _ => bx_range _ _ (br.getD i) ((hb _).getD i)
theorem ofPre_length (rand : List Int) : (ofPre E n rand).length = n + 2 := by simp [ofPre, pre1_length]
theorem ofPre_byt (hb : ∀ x, Byt (E x)) {rand : List Int} (br : Byt rand) : Byt (ofPre E n rand) := by
  refine (pre1_byt hb br).append fun x hx => ?_
  simp only [List.mem_cons, List.mem_nil_iff, or_false] at hx
  rcases hx with rfl | rfl
  · exact bx_range _ _ ((hb _).getD _) (br.getD _)
  · exact bx_range _ _ ((hb _).getD _) (br.getD _)
theorem pAt_zero (rand : List Int) : pAt E n rand 0 = List.replicate (n + 2) 0 := by
  rw [replicate_tab]
  exact tab_congr fun j _ => if_neg (by omega)
theorem pAt_length (rand : List Int) (k : Nat) : (pAt E n rand k).length = n + 2 := tab_length _ _
theorem pAt_step (rand : List Int) (k : Nat) : (pAt E n rand k).set k (Go.bits .xor .u8 (rand.getD k 0) ((ofZ E n).getD k 0)) = pAt E n rand (k + 1) := by
  unfold pAt
  rw [tab_set]
  refine tab_congr fun j hj => ?_
  by_cases e : j = k
  · subst e; rw [if_pos rfl, if_pos (by omega)]
  · rw [if_neg e]
    by_cases h3 : j < k
    · rw [if_pos h3, if_pos (by omega)]
    · rw [if_neg h3, if_neg (by omega)]
theorem pAt_take (rand : List Int) : (pAt E n rand n).take n = pre1 E n rand := by
  unfold pAt
  rw [tab_take _ _ _ (by omega)]
  exact tab_congr fun j hj => if_pos hj
theorem pAt_end (rand : List Int) (a b : Int) : ((pAt E n rand n).set n a).set (n + 1) b = pre1 E n rand ++ [a, b] := by
  have h1 := pAt_take (E := E) (n := n) rand
  apply List.ext_getElem?
  intro j
  have hl := pAt_length (E := E) (n := n) rand n
  by_cases h : j < n
  · rw [List.getElem?_set, if_neg (by omega), List.getElem?_set, if_neg (by omega), List.getElem?_append_left (by rw [pre1_length]; exact h), ← h1, List.getElem?_take, if_pos h]
  · rw [List.getElem?_append_right (by rw [pre1_length]; omega), pre1_length]
    by_cases e : j = n
    · subst e
      rw [List.getElem?_set, if_neg (by omega), List.getElem?_set, if_pos rfl, if_pos (by omega)]
      simp
    · by_cases e2 : j = n + 1
      · subst e2
        rw [List.getElem?_set, if_pos rfl, if_pos (by rw [List.length_set]; omega), show n + 1 - n = 1 from by omega]
        rfl
      · rw [List.getElem?_eq_none (by simp [hl]; omega), List.getElem?_eq_none (by simp; omega)]
theorem okS_St (hE : ∀ x, (E x).length = n) (hb : ∀ x, Byt (E x)) (h2 : 2 ≤ n) {pre : List Int} (bp : Byt pre) (r : Bool) : OkS n (ofSt E n pre r) := by
  unfold ofSt
  cases r
  · exact ⟨by simp [hE], set_byt' (set_byt' (hb _) _ (bp.getD _)) _ (bp.getD _), by simpa using h2⟩
  · exact ⟨hE _, hb _, Nat.zero_le _⟩
/-- The prefix is deciphered as the random bytes and the last two of them once more. -/
theorem unPre_ofPre (hb : ∀ x, Byt (E x)) (h2 : 2 ≤ n) {rand : List Int} (hl : rand.length = n) (br : Byt rand) : unPre E n (ofPre E n rand) = rand ++ rand.drop (n - 2) := by
  have ht : (ofPre E n rand).take n = pre1 E n rand := by
    unfold ofPre
    rw [List.take_append_of_le_length (by rw [pre1_length]; exact Nat.le_refl _), List.take_of_length_le (by rw [pre1_length]; exact Nat.le_refl _)]
  have hn : (ofPre E n rand).getD n 0 = Go.bits .xor .u8 ((E (pre1 E n rand)).getD 0 0) (rand.getD (n - 2) 0) := by
    unfold ofPre
    rw [List.getD_eq_getElem?_getD, List.getElem?_append_right (by rw [pre1_length]; exact Nat.le_refl _), pre1_length, Nat.sub_self]
    rfl
  have hn1 : (ofPre E n rand).getD (n + 1) 0 = Go.bits .xor .u8 ((E (pre1 E n rand)).getD 1 0) (rand.getD (n - 1) 0) := by
    unfold ofPre
    rw [List.getD_eq_getElem?_getD, List.getElem?_append_right (by rw [pre1_length]; omega), pre1_length, show n + 1 - n = 1 from by omega]
    rfl
  have cancel : ∀ a b : Int, 0 ≤ a ∧ a ≤ 255 → 0 ≤ b ∧ b ≤ 255 → Go.bits .xor .u8 (Go.bits .xor .u8 a b) a = b := fun a b ha hbb => by
    rw [bx_comm a b ha hbb, bx_assoc _ _ _ hbb ha ha, bx_self _ ha, bx_zero _ hbb]
  unfold unPre
  rw [ht, hn, hn1, cancel _ _ ((hb _).getD _) (br.getD _), cancel _ _ ((hb _).getD _) (br.getD _)]
  have h1 : pre1 E n (pre1 E n rand) = rand := by
    conv => rhs; rw [eq_tab rand, hl]
    refine tab_congr fun j hj => ?_
    unfold pre1
    rw [tab_getD hj]
    have hq := (hb (List.replicate n 0)).getD j
    have hr := br.getD j
    show Go.bits .xor .u8 (Go.bits .xor .u8 _ ((E (List.replicate n 0)).getD j 0)) ((E (List.replicate n 0)).getD j 0) = _
    rw [bx_assoc _ _ _ hr hq hq, bx_self _ hq, bx_zero _ hr]
  rw [h1]
  congr 1
  have e1 : rand.drop (n - 2) = [rand[n - 2]'(by omega), rand[n - 1]'(by omega)] := by
    rw [List.drop_eq_getElem_cons (by omega), show n - 2 + 1 = n - 1 from by omega, List.drop_eq_getElem_cons (by omega), show n - 1 + 1 = n from by omega, List.drop_eq_nil_of_le (by omega)]
  rw [e1]
  simp [List.getD_eq_getElem?_getD, List.getElem?_eq_getElem (show n - 2 < rand.length by omega), List.getElem?_eq_getElem (show n - 1 < rand.length by omega)]
end
end Go.Proofs.Ytnhnfhdbbebclaa.V
