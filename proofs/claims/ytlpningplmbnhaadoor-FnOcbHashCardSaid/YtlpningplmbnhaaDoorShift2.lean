/- The contracts of spec.Shifted. -/
import Derived.Test.YtlpningplmbnhaaDoorShift
set_option linter.unusedVariables false
set_option linter.unusedSimpArgs false
namespace Go.Proofs.YtlpningplmbnhaaDoor
open Go.RowKit V
set_option maxRecDepth 100000 in
set_option maxHeartbeats 1000000 in
theorem specShifted_any (A : Option Addr) (n c : Nat) (xs : List Int) (i size : Nat) (w : World) (hn : n = xs.length) (rx : Rb w A xs) (hb : Byt xs) (hl : n ≤ 140737488351232) (hi : i ≤ 1152921504606846976) (hs : size ≤ 140737488351232) :
    Calls Tryd.prog 31 #[.slice A n c, .int .i64 i, .int .i64 size] w (Gives NoB w (shifted xs i size)) := by
  have HN := As.mk hn
  have RX := As.mk rx
  have HY := As.mk hb
  clear hn rx hb
  go_enter Tryd.func31, Tryd.ntmps31
  go_wp2_with ((with_reducible refine gate (N := 10) rfl ?_); refine wpList_make_k rfl _ 22 rfl 5 .u8 1 Tryd.underlying22 info8 (by decide) size _ rfl (by omega) (by omega) ?_; intro w1 g1 HG1 ho1 hc1 hz1; rw [← shiftedAt_zero xs i size] at ho1; have HC1 := As.mk hc1; have HO1 := As.mk ho1; clear ho1 hc1 hz1)
  go_loopw [13] (fun i' wr => ∃ k : Nat, k ≤ 8 * size ∧ i' = .int .i64 k ∧ As (Own wr w.heap.size 5 .u8 (.slice (some ⟨g1, 0, none⟩) size size) (shiftedAt xs i size k)) ∧ As (Chg NoB w wr)) (fun i' _ => 8 * size - (intOf i').toNat)
  case atStart => exact ⟨0, by omega, rfl, HO1, HC1⟩
  case round =>
    obtain ⟨k, hk, rfl, HO, HC⟩ := hrel
    by_cases hlt : k < 8 * size
    · obtain ⟨j, hj⟩ : ∃ j, j = k / 8 := ⟨_, rfl⟩
      obtain ⟨b, hb⟩ : ∃ b, b = 7 - k % 8 := ⟨_, rfl⟩
      obtain ⟨p, hp⟩ : ∃ p, p = i + k := ⟨_, rfl⟩
      have hjl : j < size := by omega
      have hw1 : IntKind.i64.wrap ((k : Int) / 8) = (j : Int) := by rw [IntKind.wrap_i64]; omega
      have hw2 : IntKind.i64.wrap ((i : Int) + (k : Int)) = (p : Int) := by rw [IntKind.wrap_i64]; omega
      have hw3 : IntKind.i64.wrap (7 - Int.tmod (k : Int) 8) = (b : Int) := by rw [IntKind.wrap_i64, Int.tmod_eq_emod_of_nonneg (by omega)]; omega
      obtain ⟨c1, c2⟩ := own_at HO.out j (by unfold shiftedAt; rw [tab_length]; omega)
      rw [hj, shiftedAt_rd xs i size k hlt, ← hj] at c1
      have hset := own_set HO.out j (Go.bits .or .u8 ((pb xs i (k / 8) (k % 8) : Nat) : Int) ((bitn xs (i + k) * 2 ^ (7 - k % 8) : Nat) : Int))
      rw [hj, shiftedAt_step xs i size k hlt, ← hj] at hset
      have hbit := bitn_lt xs (i + k)
      rw [← hp, ← hb] at hset
      rw [← hp] at hbit
      have HBT : As (∀ w : World, Rb w A xs → Calls Tryd.prog 32 #[.slice A n c, .int .i64 (p : Int)] w fun e w' => e = .returned (.int .u8 (bitn xs p : Nat)) ∧ w' = w) := ⟨fun w rx => bitAt_any A n c xs p w HN.out rx HY.out (by omega) (by omega)⟩
      have hb7 : b ≤ 7 := by omega
      generalize pb xs i j (k % 8) = q at *
      generalize bitn xs p = t at *
      have hw4 : IntKind.u8.wrap ((t : Int) * 2 ^ b) = ((t * 2 ^ b : Nat) : Int) := by
        have h4 : 2 ^ b ≤ 2 ^ 7 := Nat.pow_le_pow_right (by omega) hb7
        have h5 : t * 2 ^ b ≤ 1 * 2 ^ 7 := Nat.mul_le_mul (by omega) h4
        rw [show (t : Int) * 2 ^ b = ((t * 2 ^ b : Nat) : Int) from by rw [Int.natCast_mul, Int.natCast_pow]; rfl, IntKind.wrap_u8]
        generalize t * 2 ^ b = z at *
        omega
      generalize ((t * 2 ^ b : Nat) : Int) = v at *
      have HS := As.mk hset
      have HB := As.mk (own_blocks HO.out).1
      clear hset hj hb hp
      go_wp2
      go_region_law (first
        | (go_simp
           refine (HBT.out _ (RX.out.keep ?hb1)).mono ?_
           case hb1 => repeat (first | exact HC.out | (with_reducible apply Chg.drew))
           rintro e20 w20 ⟨rfl, rfl⟩))
      all_goals
        go_wp2
        go_roundw
        case rel => exact ⟨k + 1, by omega, by go_num, HS, ⟨(HC.out.setCell (p := ⟨g1, j, none⟩) _ (fun h => by exfalso; have h1 : g1 < w.heap.size := h; have := HB.out; omega)).drew⟩⟩
        case measure => simp [intOf]; omega
    · obtain rfl : k = 8 * size := by omega
      go_wp2
      go_ret
      have ho := HO.out
      rw [shiftedAt_end] at ho
      exact ⟨_, rfl, ho, HC.out⟩
end Go.Proofs.YtlpningplmbnhaaDoor
