/- Plain law: OMAC by the paper is what the package calculates with CBC. -/
import Derived.Test.YthbgpbaneghmdaaOmac3
import Derived.Test.YthbgpbaneghmdaaPadB
set_option linter.unusedVariables false
set_option linter.unusedSimpArgs false
namespace Go.Proofs.Ythbgpbaneghmdaa
open Go.RowKit V
theorem eq_of_getD {xs ys : List Int} (hl : xs.length = ys.length) (h : ∀ i, i < xs.length → xs.getD i 0 = ys.getD i 0) : xs = ys := by
  rw [eq_tab ys]
  exact tab_ext hl (fun i hi => h i (by omega))
theorem getD_drop (xs : List Int) (i j : Nat) : (xs.drop i).getD j 0 = xs.getD (i + j) 0 := by simp [List.getD_eq_getElem?_getD, List.getElem?_drop]
theorem getD_take {xs : List Int} {i j : Nat} (h : j < i) : (xs.take i).getD j 0 = xs.getD j 0 := by simp [List.getD_eq_getElem?_getD, List.getElem?_take, h]
theorem getD_left {xs ys : List Int} {j : Nat} (h : j < xs.length) : (xs ++ ys).getD j 0 = xs.getD j 0 := by simp [List.getD_eq_getElem?_getD, List.getElem?_append_left h]
theorem getD_right {xs ys : List Int} {j : Nat} (h : xs.length ≤ j) : (xs ++ ys).getD j 0 = ys.getD (j - xs.length) 0 := by simp [List.getD_eq_getElem?_getD, List.getElem?_append_right h]
theorem xorZ_getD {xs ys : List Int} {i : Nat} (h : i < xs.length) (h' : i < ys.length) : (xorZ xs ys).getD i 0 = Go.bits .xor .u8 (xs.getD i 0) (ys.getD i 0) := by
  unfold xorZ
  simp [List.getD_eq_getElem?_getD, List.getElem?_zipWith, List.getElem?_eq_getElem h, List.getElem?_eq_getElem h']
theorem xorL_getD {xs ys : List Int} {i : Nat} (h : i < xs.length) (h' : i < ys.length) : (xorL xs ys).getD i 0 = Go.bits .xor .u8 (xs.getD i 0) (ys.getD i 0) := by
  unfold xorL
  rw [tab_getD h, if_pos h']
theorem xorL_xorZ {xs ys : List Int} (hl : xs.length = ys.length) (bx : Byt xs) (by_ : Byt ys) : xorL xs ys = xorZ ys xs := by
  refine eq_of_getD (by rw [xorL_length, xorZ_length]; omega) fun i hi => ?_
  rw [xorL_length] at hi
  rw [xorL_getD hi (by omega), xorZ_getD (by omega) hi]
  exact bx_comm _ _ (bx.getD i) (by_.getD i)
section
variable (E : List Int → List Int) (l : List Int)
def sSt : Nat → List Int
  | 0 => List.replicate 16 0
  | k + 1 => E (xorL (sSt k) ((l.drop (k * 16)).take 16))
/-- OMAC as the paper has it. -/
def sOm (once : List Int) : List Int :=
  if (l.drop ((l.length - 1) / 16 * 16)).length = 16 then E (xorL (sSt E l ((l.length - 1) / 16)) (xorL (l.drop ((l.length - 1) / 16 * 16)) once))
  else E (xorL (sSt E l ((l.length - 1) / 16)) (xorL (padB (l.drop ((l.length - 1) / 16 * 16)) 16) (dbl once)))
end
theorem sSt_length {E : List Int → List Int} (hE : ∀ x, (E x).length = 16) (l : List Int) : ∀ k, (sSt E l k).length = 16
  | 0 => by simp [sSt]
  | k + 1 => hE _
theorem sSt_byt {E : List Int → List Int} (hE : ∀ x, Byt (E x)) (l : List Int) : ∀ k, Byt (sSt E l k)
  | 0 => zeros_byt 16
  | k + 1 => hE _
/-- The states go along while the blocks are the same. -/
theorem cbc_sSt {E : List Int → List Int} (hE : ∀ x, (E x).length = 16) (hb : ∀ x, Byt (E x)) {l p : List Int} (bl : Byt l) (K : Nat) (hK : K * 16 ≤ l.length) (h : ∀ k, k < K → (p.drop (k * 16)).take 16 = (l.drop (k * 16)).take 16) :
    ∀ k, k ≤ K → cbcSt E 16 p (List.replicate 16 0) k = sSt E l k
  | 0, _ => rfl
  | k + 1, hk => by
    have ih := cbc_sSt hE hb bl K hK h k (by omega)
    rw [cbcSt, sSt, ih, h k (by omega)]
    rw [← xorL_xorZ (by rw [sSt_length hE, List.length_take, List.length_drop]; omega) (sSt_byt hb l k) ((bl.drop _).take _)]
theorem xorR_low {xs ys : List Int} (hy : ys.length = 16) (K k : Nat) (hx : xs.length = (K + 1) * 16) (hk : k < K) : ((xorR xs ys).drop (k * 16)).take 16 = (xs.drop (k * 16)).take 16 := by
  refine eq_of_getD (by simp only [List.length_take, List.length_drop, xorR_length]) fun i hi => ?_
  rw [List.length_take, List.length_drop, xorR_length] at hi
  rw [getD_take (by omega), getD_take (by omega), getD_drop, getD_drop]
  unfold xorR
  rw [tab_getD (by omega), if_neg (by omega)]
theorem xorR_last {xs ys : List Int} (hy : ys.length = 16) (K : Nat) (hx : xs.length = (K + 1) * 16) : ((xorR xs ys).drop (K * 16)).take 16 = xorL (xs.drop (K * 16)) ys := by
  refine eq_of_getD (by rw [List.length_take, List.length_drop, xorR_length, xorL_length, List.length_drop]; omega) fun i hi => ?_
  rw [List.length_take, List.length_drop, xorR_length] at hi
  rw [getD_take (by omega), getD_drop, xorL_getD (by rw [List.length_drop]; omega) (by omega), getD_drop]
  unfold xorR
  rw [tab_getD (by omega), if_pos (by omega), show K * 16 + i - (xs.length - ys.length) = i from by omega]
theorem sOm_omacL {perm sub mask l : List Int} (hm : mask.length = 16) (bs : Byt sub) (bm : Byt mask) (bl : Byt l) (h1 : 1 ≤ l.length) :
    sOm (encL perm sub mask) l (dbl (omac0 perm sub mask)) = omacL perm sub mask l := by
  have hE : ∀ x, (encL perm sub mask x).length = 16 := fun x => by rw [encL_length]; exact hm
  have hb : ∀ x, Byt (encL perm sub mask x) := fun x => encL_byt x bs bm
  obtain ⟨K, hK⟩ : ∃ K, (l.length - 1) / 16 = K := ⟨_, rfl⟩
  have hK1 : (l.length + 15) / 16 = K + 1 := by omega
  unfold sOm omacL
  rw [hK, hK1, cbcSt]
  by_cases hf : l.length % 16 = 0
  · have hlen : l.length = (K + 1) * 16 := by omega
    have hp : omacPad perm sub mask l = xorR l (dbl (omac0 perm sub mask)) := by unfold omacPad padL; rw [if_pos hf]
    rw [if_pos (by rw [List.length_drop]; omega), hp, xorR_last (dbl_length _) K hlen]
    have hst := cbc_sSt hE hb (p := xorR l (dbl (omac0 perm sub mask))) bl K (by omega) (fun k hk => xorR_low (dbl_length _) K k hlen hk) K (Nat.le_refl _)
    rw [hst, ← xorL_xorZ (by rw [sSt_length hE, xorL_length, List.length_drop]; omega) (sSt_byt hb l K) (xorL_byt (bl.drop _) (dbl_byt _))]
  · obtain ⟨s, hs⟩ : ∃ s, s = 16 - l.length % 16 := ⟨_, rfl⟩
    have hp : omacPad perm sub mask l = xorR (l ++ (List.replicate s 0).set 0 128) (dbl (dbl (omac0 perm sub mask))) := by unfold omacPad padL; rw [if_neg hf, hs]
    have htl : ((List.replicate s (0 : Int)).set 0 128).length = s := by rw [List.length_set, List.length_replicate]
    have hlen : (l ++ (List.replicate s (0 : Int)).set 0 128).length = (K + 1) * 16 := by rw [List.length_append, htl]; omega
    have hrest : (l.drop (K * 16)).length = 16 - s := by rw [List.length_drop]; omega
    rw [if_neg (by omega), hp, xorR_last (dbl_length _) K hlen]
    have hlow : ∀ k, k < K → ((xorR (l ++ (List.replicate s (0 : Int)).set 0 128) (dbl (dbl (omac0 perm sub mask)))).drop (k * 16)).take 16 = (l.drop (k * 16)).take 16 := fun k hk => by
      rw [xorR_low (dbl_length _) K k hlen hk, List.drop_append_of_le_length (by omega), List.take_append_of_le_length (by rw [List.length_drop]; omega)]
    have hst := cbc_sSt hE hb (p := xorR (l ++ (List.replicate s (0 : Int)).set 0 128) (dbl (dbl (omac0 perm sub mask)))) bl K (by omega) hlow K (Nat.le_refl _)
    have hpb : (l ++ (List.replicate s (0 : Int)).set 0 128).drop (K * 16) = padB (l.drop (K * 16)) 16 := by
      rw [List.drop_append_of_le_length (by omega)]
      unfold padB
      rw [List.append_assoc]
      congr 1
      obtain ⟨r, hr⟩ : ∃ r, s = r + 1 := ⟨s - 1, by omega⟩
      rw [hrest, hr, List.replicate_succ, List.set_cons_zero, show 16 - (16 - (r + 1) + 1) = r from by omega]
      rfl
    rw [hst, hpb]
    have bpad : Byt (padB (l.drop (K * 16)) 16) := by
      unfold padB
      exact ((bl.drop _).append (fun x h => by rw [List.mem_singleton.1 h]; omega)).append (zeros_byt _)
    rw [← xorL_xorZ (by rw [sSt_length hE, xorL_length, padB_length (by omega)]) (sSt_byt hb l K) (xorL_byt bpad (dbl_byt _))]
theorem oct_twk {t : Int} (h : 0 ≤ t ∧ t ≤ 255) : ∀ i, i < 16 → t / 2 ^ (8 * (16 - 1 - i)) % 256 = ((List.replicate 16 (0 : Int)).set 15 t).getD i 0 := by
  intro i hi
  rw [List.getD_eq_getElem?_getD, List.getElem?_set]
  by_cases e : 15 = i
  · subst e
    simp
    omega
  · rw [if_neg e, List.getElem?_replicate, if_pos hi]
    simp only [Option.getD_some]
    have h2 : (2 : Int) ^ 8 ≤ 2 ^ (8 * (16 - 1 - i)) := by
      have := Nat.pow_le_pow_right (n := 2) (by omega) (show 8 ≤ 8 * (16 - 1 - i) by omega)
      exact_mod_cast this
    have h3 : t / 2 ^ (8 * (16 - 1 - i)) = 0 := Int.ediv_eq_zero_of_lt h.1 (by omega)
    rw [h3]
    rfl
end Go.Proofs.Ythbgpbaneghmdaa
