/- The contracts of spec.Significant and spec.Bits. -/
import Derived.Test.YtllcfihbepmphaaDoorBase
import Derived.Test.YtllcfihbepmphaaDoorV3
set_option linter.unusedVariables false
set_option linter.unusedSimpArgs false
namespace Go.Proofs.YtllcfihbepmphaaDoor
open Go.RowKit V
/-- Octets without zeros at their beginning. -/
def sig : List Int → List Int
  | [] => []
  | x :: l => if x = 0 then sig l else x :: l
theorem sig_length (xs : List Int) : (sig xs).length ≤ xs.length := by
  induction xs with
  | nil => simp [sig]
  | cons x l ih => unfold sig; split <;> simp <;> omega
theorem sig_byt {xs : List Int} (h : Byt xs) : Byt (sig xs) := by
  induction xs with
  | nil => simpa [sig] using h
  | cons x l ih =>
    unfold sig
    split
    · exact ih (fun y hy => h y (List.mem_cons_of_mem _ hy))
    · exact h
theorem sig_split {r : List Int} (h : r = rd r 0 :: r.drop 1) : sig r = if rd r 0 = 0 then sig (r.drop 1) else r := by
  cases r with
  | nil => simp at h
  | cons y l => simp [sig, rd]
theorem sig_head {xs : List Int} (h : sig xs ≠ []) : rd (sig xs) 0 ≠ 0 := by
  induction xs with
  | nil => exact absurd rfl h
  | cons x l ih =>
    unfold sig at h ⊢
    by_cases hx : x = 0
    · rw [if_pos hx] at h ⊢; exact ih h
    · rw [if_neg hx]; simpa [rd] using hx
set_option maxRecDepth 100000 in
set_option maxHeartbeats 2000000 in
theorem significant_any (A : Option Addr) (n c : Nat) (xs : List Int) (w : World) (hn : n = xs.length) (hnc : n ≤ c) (hx : Rb w A xs) (hl : n ≤ 1048576) :
    Calls Tryd.prog 29 #[.slice A n c] w fun e w' => ∃ v, e = .returned v ∧ Ow w' w.heap.size 5 .u8 v (sig xs) ∧ Chg NoB w w' := by
  have HX := As.mk hx
  have HN := As.mk hn
  clear hx hn
  go_enter Tryd.func29, Tryd.ntmps29
  go_wp2_with fail
  go_loopw [0] (fun v w' => ∃ (A' : Option Addr) (n' c' : Nat), v = .slice A' n' c' ∧ n' ≤ n ∧ n' ≤ c' ∧ As (∃ r : List Int, n' = r.length ∧ Rb w A' r ∧ sig r = sig xs) ∧ w' = w) (fun v _ => match v with | .slice _ n' _ => n' | _ => 0)
  case atStart => exact ⟨A, n, c, rfl, Nat.le_refl _, hnc, ⟨xs, HN.out, HX.out, rfl⟩, rfl⟩
  case round =>
    obtain ⟨A', n', c', rfl, hnn, hnc', HR, hw⟩ := hrel
    subst hw
    by_cases hz : n' = 0
    · subst hz
      have HE : As (sig xs = []) := ⟨by
        obtain ⟨r, h1, _, h3⟩ := HR.out
        rw [← h3, List.eq_nil_of_length_eq_zero h1.symm]; rfl⟩
      clear HR
      go_wp2_with ((with_reducible refine gate (N := 16) rfl ?_); refine wpList_append_e rfl _ _ 22 rfl 5 .u8 1 Tryd.underlying22 info8 (by decide) _ wr.heap.size [] A' 0 c' rfl rfl rfl Rk.none_ ?hb (by simp) ?_; (case hb => simp); intro v1 w1 ho1 hc1)
      go_ret
      exact ⟨v1, rfl, by rw [HE.out]; exact ho1, ((Chg.refl NoB wr).alloc _).trans hc1 (fun _ _ e => e)⟩
    · obtain ⟨r, hr1, hr2, hr3⟩ := HR.out
      obtain ⟨a1, hA1, hc1⟩ := hr2.at_ 0 (by omega) (by omega)
      simp only [Int.toNat_zero, Addr.add, if_true] at hc1
      obtain ⟨A3, hcut3, _, hA3⟩ := cut_from (P := Tryd.prog) 22 5 Tryd.underlying22 size8 A' n' c' 1 .i64 (n' - 1) (c' - 1) (by omega) (by omega) (by omega) hnc'
      have HA3 := As.mk (hA3 _ .u8 r hr1.symm hr2)
      have hxr : r = rd r 0 :: r.drop 1 := by
        cases r with
        | nil => simp at hr1; omega
        | cons y r => simp [rd]
      have hlen1 : n' - 1 = (r.drop 1).length := by rw [List.length_drop]; omega
      have HS1 : As (sig xs = if rd r 0 = 0 then sig (r.drop 1) else r) := ⟨by rw [← hr3]; exact sig_split hxr⟩
      have HR2 := As.mk hr2
      have HR1 := As.mk hr1
      have HL1 := As.mk hlen1
      have hpos : (0 : Int) < (n' : Int) := by omega
      generalize rd r 0 = x at *
      subst hA1
      clear HR hr1 hr2 hr3 hA3 hxr hlen1
      by_cases hx1 : x = 0
      · subst hx1
        have HR3 : As (∃ r' : List Int, n' - 1 = r'.length ∧ Rb wr A3 r' ∧ sig r' = sig xs) := ⟨_, HL1.out, HA3.out, by rw [HS1.out, if_pos rfl]⟩
        go_wp2_with fail
        go_roundw
        case rel => exact ⟨A3, n' - 1, c' - 1, rfl, by omega, by omega, HR3, trivial⟩
        case measure => simp; omega
      · have hxb : (x == 0) = false := by simpa using hx1
        have HE : As (sig xs = r) := ⟨by rw [HS1.out, if_neg hx1]⟩
        clear hx1
        go_wp2_with ((with_reducible refine gate (N := 16) rfl ?_); refine wpList_append_e rfl _ _ 22 rfl 5 .u8 1 Tryd.underlying22 info8 (by decide) _ wr.heap.size r (some a1) n' c' rfl rfl HR1.out (HR2.out.alloc _) ?hb (by have := HR1.out; omega) ?_; (case hb => simp); intro v1 w1 ho1 hc1)
        go_ret
        exact ⟨v1, rfl, by rw [HE.out]; exact ho1, ((Chg.refl NoB wr).alloc _).trans hc1 (fun _ _ e => e)⟩
/-- How many bits the number of some octets has. -/
def BitsIs (z : List Int) (n : Int) : Prop := (z = [] ∧ n = 0) ∨ (z ≠ [] ∧ ∃ j : Nat, n = 8 * (z.length : Int) - j ∧ 128 ≤ rd z 0 * 2 ^ j ∧ rd z 0 * 2 ^ j < 256)
theorem and128uN : ∀ t : Nat, t < 256 → bits BinOp.and .u8 (t : Int) 128 = if t < 128 then 0 else 128 := by decide +kernel
set_option maxRecDepth 100000 in
set_option maxHeartbeats 2000000 in
theorem bits_any (A : Option Addr) (n c : Nat) (xs : List Int) (w : World) (hn : n = xs.length) (hnc : n ≤ c) (hx : Rb w A xs) (hb : Byt xs) (hl : n ≤ 1048576) :
    Calls Tryd.prog 22 #[.slice A n c] w fun e w' => (∃ m : Int, e = .returned (.int .i64 m) ∧ BitsIs (sig xs) m) ∧ Chg NoB w w' := by
  have HSG := As.mk (significant_any A n c xs w hn hnc hx hl)
  have HZB := As.mk (sig_byt hb)
  have hzl : (sig xs).length ≤ 1048576 := by have := sig_length xs; omega
  have HZH := As.mk (fun h => sig_head (xs := xs) h)
  clear hn hx hb
  generalize sig xs = z at *
  go_enter Tryd.func22, Tryd.ntmps22
  go_wp2_with fail
  refine HSG.out.mono ?_
  rintro e w1 ⟨v1, rfl, ho1, hc1⟩
  obtain ⟨A1, c1, hv, _, hr1⟩ := ow_form ho1
  obtain ⟨m, hm⟩ : ∃ m, m = z.length := ⟨_, rfl⟩
  rw [← hm] at hv hzl
  subst hv
  have HR1 := As.mk hr1
  have HC1 := As.mk hc1
  have HM := As.mk hm
  clear ho1 hr1 hc1 hm
  by_cases hz : m = 0
  · have HE : As (z = []) := ⟨List.eq_nil_of_length_eq_zero (by rw [← HM.out]; exact hz)⟩
    subst hz
    go_wp2_with fail
    go_ret
    exact ⟨⟨0, rfl, Or.inl ⟨HE.out, rfl⟩⟩, HC1.out⟩
  · have hzne : z ≠ [] := fun e => hz (by rw [HM.out, e]; rfl)
    obtain ⟨a1, hA1, hc0⟩ := HR1.out.at_ 0 (by omega) (by have := HM.out; omega)
    simp only [Int.toNat_zero, Addr.add, if_true] at hc0
    have hrd := HZB.out.rd 0
    have hr0 := HZH.out hzne
    have HZN := As.mk hzne
    obtain ⟨t, ht⟩ := Int.eq_ofNat_of_zero_le hrd.1
    rw [ht] at hc0 hrd hr0
    have HT := As.mk ht
    have ht1 : 1 ≤ t := by omega
    have ht2 : t ≤ 255 := by omega
    have hzb : ((m : Int) == 0) = false := by simp; omega
    have hpos : (0 : Int) < (m : Int) := by omega
    subst hA1
    clear hrd hr0 ht hzne
    go_wp2_with fail
    go_loopw [4, 5] (fun v u w' => ∃ (j tv : Nat), v = .int .i64 (8 * (m : Int) - j) ∧ u = .int .u8 tv ∧ j ≤ 8 ∧ tv < 256 ∧ 1 ≤ tv ∧ As (tv = t * 2 ^ j) ∧ w' = w1) (fun _ u _ => 256 - (intOf u).toNat)
    case atStart => exact ⟨0, t, by go_num, rfl, by omega, by omega, ht1, ⟨by simp⟩, rfl⟩
    case round =>
      obtain ⟨j, tv, rfl, rfl, hj, htv, htv1, HTV, hw⟩ := hrel
      subst hw
      have hand := and128uN tv htv
      by_cases h128 : tv < 128
      · rw [if_pos h128] at hand
        have hj7 : j ≤ 7 := by
          rcases Nat.lt_or_ge 7 j with h | h
          · exfalso
            have e8 : j = 8 := by omega
            have := HTV.out
            rw [e8] at this
            omega
          · exact h
        have HTV2 : As (2 * tv = t * 2 ^ (j + 1)) := ⟨by rw [HTV.out, Nat.pow_succ, Nat.mul_left_comm, Nat.mul_comm 2]⟩
        go_wp2_with fail
        exact ⟨⟨j + 1, 2 * tv, by go_num, by go_num, by omega, by omega, by omega, HTV2, trivial⟩, by simp [intOf]; omega⟩
      · rw [if_neg h128] at hand
        go_wp2_with fail
        go_ret
        refine ⟨⟨_, rfl, Or.inr ⟨HZN.out, j, by rw [← HM.out], ?_, ?_⟩⟩, HC1.out⟩
        · rw [HT.out]; have := HTV.out; rw [show (t : Int) * 2 ^ j = ((t * 2 ^ j : Nat) : Int) from by simp]; omega
        · rw [HT.out]; have := HTV.out; rw [show (t : Int) * 2 ^ j = ((t * 2 ^ j : Nat) : Int) from by simp]; omega
end Go.Proofs.YtllcfihbepmphaaDoor
