/- The contracts of spec.Xored and spec.XoredRight. -/
import Derived.Test.YtlpningplmbnhaaDoorBase
import Derived.Test.YtlpningplmbnhaaDoorV3
import Derived.Test.YtlpningplmbnhaaDoorPure
set_option linter.unusedVariables false
set_option linter.unusedSimpArgs false
namespace Go.Proofs.YtlpningplmbnhaaDoor
open Go.RowKit V

/-- What a call hands back: a row of its own, or an empty slice, that reads as xs. -/
def GivesW (S : Nat → Prop) (w : World) (xs : List Int) (e : Ending) (w' : World) : Prop :=
  ∃ v, e = .returned v ∧ Ow w' w.heap.size 5 .u8 v xs ∧ Chg S w w'

def xorAt (xs ys : List Int) (k : Nat) : List Int := tab xs.length fun j => if j < k then Go.bits .xor .u8 (xs.getD j 0) (ys.getD j 0) else xs.getD j 0
theorem xorAt_length (xs ys : List Int) (k : Nat) : (xorAt xs ys k).length = xs.length := tab_length _ _
theorem xorAt_zero (xs ys : List Int) : xorAt xs ys 0 = xs := by
  have := (eq_tab xs).symm
  simpa [xorAt] using this
theorem xorAt_step (xs ys : List Int) (k : Nat) (hk : k < xs.length) :
    (xorAt xs ys k).set k (Go.bits .xor .u8 (rd (xorAt xs ys k) (k : Int)) (rd ys (k : Int))) = xorAt xs ys (k + 1) := by
  unfold xorAt
  rw [rd_tab hk, tab_set, rd_nat, if_neg (by omega)]
  refine tab_congr fun j hj => ?_
  by_cases e : j = k
  · subst e
    rw [if_pos rfl, if_pos (by omega)]
  · rw [if_neg e]
    by_cases h : j < k
    · rw [if_pos h, if_pos (by omega)]
    · rw [if_neg h, if_neg (by omega)]
theorem xorAt_end (xs ys : List Int) (k : Nat) (hk : k ≤ xs.length) (hk2 : k ≤ ys.length) (h : k = xs.length ∨ k = ys.length) : xorAt xs ys k = xorL xs ys := by
  unfold xorAt xorL
  refine tab_congr fun j hj => ?_
  by_cases h1 : j < k
  · rw [if_pos h1, if_pos (by omega)]
  · rw [if_neg h1, if_neg (by omega)]

set_option maxRecDepth 100000 in
set_option maxHeartbeats 1000000 in
theorem specXored_any (A : Option Addr) (n c : Nat) (xs : List Int) (B : Option Addr) (m d : Nat) (ys : List Int) (w : World) (hn : n = xs.length) (hm : m = ys.length) (rx : Rb w A xs) (ry : Rb w B ys) (hl : xs.length ≤ 140737488355328) :
    Calls Tryd.prog 16 #[.slice A n c, .slice B m d] w (GivesW NoB w (xorL xs ys)) := by
  have RX := As.mk rx
  have RY := As.mk ry
  have hm2 := ry.1
  have HN := As.mk hn
  have HM := As.mk hm
  have hnl : n ≤ 140737488355328 := by omega
  have hml : m ≤ 9223372036854775807 := by omega
  clear rx ry hn hm hm2 hl
  go_enter Tryd.func16, Tryd.ntmps16
  go_wp2_with (at_builtin; refine wpList_append_ow rfl _ _ 22 rfl 5 .u8 1 Tryd.underlying22 info8 (by decide) _ w.heap.size [] xs A n c rfl rfl HN.out (ow_empty _ _ _ _ _) (RX.out.alloc _) (by simp) (by have := HN.out; simp; omega) ?_; intro v1 w1 ho1 hc1; have HO1 := As.mk ho1; have HC1 := As.mk (((Chg.refl NoB w).alloc _).over hc1 (Nat.le_refl _)); clear ho1 hc1)
  obtain ⟨A1, c1, rfl, hlc, _⟩ := ow_form HO1.out
  have HO := HO1.out
  rw [List.nil_append, ← HN.out] at HO hlc
  rw [List.nil_append, ← HN.out]
  have HO2 : As (Ow w1 w.heap.size 5 .u8 (.slice A1 n c1) (xorAt xs ys 0)) := ⟨by rw [xorAt_zero]; exact HO⟩
  clear HO HO1
  go_loopw [6] (fun i wr => ∃ k : Nat, k ≤ n ∧ k ≤ m ∧ i = .int .i64 k ∧ As (Ow wr w.heap.size 5 .u8 (.slice A1 n c1) (xorAt xs ys k)) ∧ As (Chg NoB w wr)) (fun i _ => n - (intOf i).toNat)
  case atStart => exact ⟨0, by omega, by omega, rfl, HO2, HC1⟩
  case round =>
    obtain ⟨k, hkn, hkm, rfl, HO, HC⟩ := hrel
    by_cases hm1 : k < m
    · by_cases hn1 : k < n
      · have hpos : 0 < (xorAt xs ys k).length := by rw [xorAt_length, ← HN.out]; omega
        obtain ⟨g, rfl, hb1, hb2⟩ := ow_block HO.out hpos
        have hown := ow_own HO.out hpos
        obtain ⟨p1, p2⟩ := own_at hown k (by rw [xorAt_length, ← HN.out]; exact hn1)
        obtain ⟨ad, rfl, cy⟩ := (RY.out.keep HC.out).at_ (k : Int) (by omega) (by have := HM.out; omega)
        rw [Int.toNat_natCast] at cy
        generalize hq : rd (xorAt xs ys k) (k : Int) = q at *
        generalize hq2 : rd ys (k : Int) = q2 at *
        have hset := own_set hown k (Go.bits .xor .u8 q q2)
        rw [← hq, ← hq2, xorAt_step xs ys k (by rw [← HN.out]; exact hn1), hq, hq2] at hset
        have HS := As.mk (ow_of hset)
        have HB := As.mk hb1
        clear hset hq hq2 hb1 hb2 hown hpos
        go_wp2
        go_still_tail 10, (by kernel_rfl)
        change wpList _ _ _ _ _ (World.drew wr)
        go_wp2
        go_roundw
        case rel => exact ⟨k + 1, by omega, by omega, by go_num, HS, ⟨(HC.out.setCell (p := ⟨g, k, none⟩) _ (fun h => by exfalso; have h1 : g < w.heap.size := h; have := HB.out; omega)).drew⟩⟩
        case measure => simp [intOf]; omega
      · obtain rfl : k = n := by omega
        have HE : As (xorAt xs ys k = xorL xs ys) := ⟨xorAt_end xs ys k (by rw [HN.out]; exact Nat.le_refl _) (by have := HM.out; omega) (.inl HN.out)⟩
        go_wp2
        go_ret
        have ho := HO.out
        rw [HE.out] at ho
        exact ⟨_, rfl, ho, HC.out⟩
    · obtain rfl : k = m := by omega
      have HE : As (xorAt xs ys k = xorL xs ys) := ⟨xorAt_end xs ys k (by have := HN.out; omega) (by rw [HM.out]; exact Nat.le_refl _) (.inr HM.out)⟩
      go_wp2
      go_ret
      have ho := HO.out
      rw [HE.out] at ho
      exact ⟨_, rfl, ho, HC.out⟩
end Go.Proofs.YtlpningplmbnhaaDoor
