/- The contract of spec.Octets: a number in so many octets, the highest first. -/
import Derived.Test.YthbgpbaneghmdaaBase
import Derived.Test.YthbgpbaneghmdaaPure
import Derived.Laws.Shifts
set_option linter.unusedVariables false
set_option linter.unusedSimpArgs false
namespace Go.Proofs.Ythbgpbaneghmdaa
open Go.RowKit V

def oct (n : Int) (size : Nat) : List Int := tab size fun j => n / 2 ^ (8 * (size - 1 - j)) % 256
theorem oct_length (n : Int) (size : Nat) : (oct n size).length = size := tab_length _ _
attribute [-go_sem] shift_shr_any
theorem shift_wide {n : Int} (h0 : 0 ≤ n) (h1 : n ≤ 9223372036854775807) {y : Int} {m : Nat} (hy : y = (m : Int)) : Op.shift .shr .i64 n .i64 y = pure (.int .i64 (n / 2 ^ m)) := by
  subst hy
  rw [shift_shr_any _ _ _ _ (by omega), Int.toNat_natCast]
  rcases Nat.le_total m 64 with h | h
  · rw [show min m IntKind.i64.bits = m from Nat.min_eq_left h]
  · rw [show min m IntKind.i64.bits = 64 from Nat.min_eq_right h]
    have e1 : n / 2 ^ 64 = 0 := Int.ediv_eq_zero_of_lt h0 (by omega)
    have h2 : (2 : Int) ^ 64 ≤ 2 ^ m := by
      have := Nat.pow_le_pow_right (n := 2) (by omega) h
      exact_mod_cast this
    have e2 : n / 2 ^ m = 0 := Int.ediv_eq_zero_of_lt h0 (by omega)
    rw [e1, e2]
set_option maxRecDepth 100000 in
set_option maxHeartbeats 1000000 in
theorem octets_any (n : Int) (size : Nat) (w : World) (hn : 0 ≤ n) (hn2 : n ≤ 9223372036854775807) (hs : size ≤ 16) :
    Calls Try.prog 31 #[.int .i64 n, .int .i64 size] w (Gives NoB w (oct n size)) := by
  go_enter Try.func31, Try.ntmps31
  go_wp2_with ((with_reducible refine gate (N := 8) rfl ?_); refine wpList_make_k rfl _ 22 rfl 5 .u8 1 Try.underlying22 info8 (by decide) size _ rfl rfl (by omega) ?_; intro w1 g1 HG1 ho1 hc1 hz1)
  clear hz1
  go_loopw [11] (fun i wr => ∃ k : Nat, k ≤ size ∧ i = .int .i64 k ∧ As (Own wr w.heap.size 5 .u8 (.slice (some ⟨g1, 0, none⟩) size size) (tab size fun j => if j < k then n / 2 ^ (8 * (size - 1 - j)) % 256 else 0)) ∧ As (Chg NoB w wr)) (fun i _ => size - (intOf i).toNat)
  case atStart => exact ⟨0, Nat.zero_le _, rfl, ⟨by rw [replicate_tab] at ho1; simpa using ho1⟩, ⟨hc1⟩⟩
  case round =>
    clear ho1 hc1
    obtain ⟨k, hk, rfl, HO, HC⟩ := hrel
    by_cases hlt : k < size
    · obtain ⟨h1, h2⟩ := own_at HO.out k (by rw [tab_length]; exact hlt)
      have hgb := own_blocks HO.out
      have hgb1 := hgb.1
      have ho := own_set HO.out k (n / 2 ^ (8 * (size - 1 - k)) % 256)
      rw [tab_set] at ho
      have e : (tab size fun j => if j = k then n / 2 ^ (8 * (size - 1 - k)) % 256 else if j < k then n / 2 ^ (8 * (size - 1 - j)) % 256 else 0) = tab size fun j => if j < k + 1 then n / 2 ^ (8 * (size - 1 - j)) % 256 else 0 :=
        tab_congr fun j hj => by
          by_cases e : j = k
          · subst e; rw [if_pos rfl, if_pos (by omega)]
          · rw [if_neg e]
            by_cases h3 : j < k
            · rw [if_pos h3, if_pos (by omega)]
            · rw [if_neg h3, if_neg (by omega)]
      rw [e] at ho
      have HO2 := As.mk ho
      have HC2 := As.mk (HC.out.setCell (p := ⟨g1, k, none⟩) (.int .u8 (n / 2 ^ (8 * (size - 1 - k)) % 256)) (fun h => by exfalso; have : g1 < w.heap.size := h; omega))
      have hsh : Op.shift .shr .i64 n .i64 (8 * ((size : Int) - 1 - (k : Int))) = pure (.int .i64 (n / 2 ^ (8 * (size - 1 - k)))) := shift_wide hn hn2 (by omega)
      clear ho hgb hgb1 e
      go_wp2
      exact ⟨⟨k + 1, by omega, by go_num, HO2, HC2⟩, by simp [intOf]; omega⟩
    · obtain rfl : k = size := by omega
      go_wp2
      go_ret
      have e : (tab k fun j => if j < k then n / 2 ^ (8 * (k - 1 - j)) % 256 else 0) = oct n k := tab_congr fun j hj => if_pos hj
      have ho := HO.out
      rw [e] at ho
      exact ⟨_, rfl, ho, HC.out⟩
end Go.Proofs.Ythbgpbaneghmdaa
