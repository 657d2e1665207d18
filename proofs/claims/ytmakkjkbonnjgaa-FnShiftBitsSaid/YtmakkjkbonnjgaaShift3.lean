/- The contract of byteutil.ShiftNBytesLeft. -/
import Derived.Test.YtmakkjkbonnjgaaBase
import Derived.Test.YtmakkjkbonnjgaaV4
import Derived.Test.YtmakkjkbonnjgaaShiftP
set_option linter.unusedVariables false
set_option linter.unusedSimpArgs false
namespace Go.Proofs.Ytmakkjkbonnjgaa
open Go.RowKit V
set_option maxRecDepth 100000 in
set_option maxHeartbeats 1000000 in
theorem shiftLeft_any (g n : Nat) (B : Option Addr) (d : Nat) (xs : List Int) (t s i base : Nat) (w : World) (hn : n = xs.length) (hi : i = 8 * t + s) (hs : s < 8) (ht : t ≤ n) (hp : 0 < n) (hl : n ≤ 1048576) (hd : n ≤ d) (hb : Byt xs) (ho : Own w base 5 .u8 (.slice (some ⟨g, 0, none⟩) n n) (List.replicate n 0)) (rx : Rb w B xs) (hbase : base ≤ w.heap.size) :
    Calls Try.prog 42 #[.slice (some ⟨g, 0, none⟩) n n, .slice B n d, .int .i64 i] w fun e w' => e = .returned (.tuple #[]) ∧ Own w' base 5 .u8 (.slice (some ⟨g, 0, none⟩) n n) (shifted xs i n) ∧ Chg (fun b => b = g) w w' := by
  subst hi
  have HN := As.mk hn
  have HY := As.mk hb
  have HO := As.mk ho
  obtain ⟨A2, hcut2, _, hA2⟩ := cut_from (P := Try.prog) 22 5 Try.underlying22 size8 B n d (t : Int) .i64 (n - t) (d - t) (by omega) (by omega) (by omega) hd
  have R2 : As (Rb w A2 (xs.drop t)) := ⟨by have := hA2 w .u8 xs hn.symm rx; rwa [Int.toNat_natCast] at this⟩
  have L2 : As (n - t = (xs.drop t).length) := ⟨by rw [List.length_drop]; omega⟩
  have hq : ((8 * t + s : Nat) : Int) / 8 = (t : Int) := by omega
  have hr : ((8 * t + s : Nat) : Int) % 8 = (s : Int) := by omega
  clear hn hb ho rx hA2
  generalize hi : 8 * t + s = i at *
  have HI := As.mk hi
  clear hi
  go_enter Try.func42, Try.ntmps42
  have hsp := movedAt_zero HY.out t s (by have := HN.out; omega)
  rw [← HN.out] at hsp
  have HSP := As.mk hsp
  clear hsp
  go_wp2_with ((with_reducible refine gate (N := 14) rfl ?_); refine wpList_copy_rk rfl _ _ 22 22 rfl base 5 .u8 Try.underlying22 size8 g n (List.replicate n 0) (own_fix HO.out) (some ⟨g, 0, none⟩) 0 n n (by simp) rfl (fun _ => rfl) A2 (xs.drop t) (d - t) (by rw [← L2.out]; rfl) R2.out ?_; intro w2 ho2 hg2; rw [HSP.out, List.length_replicate] at ho2; have HO2 := As.mk ho2; have HC2 : As (Chg (fun b => b = g) w w2) := ⟨(Chg.refl _ _).grown hg2 (fun k hk e => (Option.some.inj e).symm)⟩; clear ho2 hg2)
  have HQ := As.mk hq
  clear hq hr
  go_loopw [8] (fun i' wr => ∃ k : Nat, k + 1 ≤ n ∧ i' = .int .i64 k ∧ As (Own wr base 5 .u8 (.slice (some ⟨g, 0, none⟩) n n) (movedAt xs t s k)) ∧ As (Chg (fun b => b = g) w wr)) (fun i' _ => n - (intOf i').toNat)
  case atStart => exact ⟨0, by omega, rfl, HO2, HC2⟩
  case round =>
    obtain ⟨k, hk, rfl, HO3, HC3⟩ := hrel
    by_cases hlt : k + 1 < n
    · obtain ⟨j, hj⟩ : ∃ j, j = k + 1 := ⟨_, rfl⟩
      obtain ⟨c1, c2⟩ := own_at HO3.out k (by unfold movedAt; rw [tab_length]; have := HN.out; omega)
      obtain ⟨c3, c4⟩ := own_at HO3.out j (by unfold movedAt; rw [tab_length]; have := HN.out; omega)
      rw [movedAt_rd xs t s k k (by have := HN.out; omega) (Nat.le_refl _)] at c1
      rw [movedAt_rd xs t s k j (by have := HN.out; omega) (by omega)] at c3
      have hset := own_set HO3.out k ((sb xs t s k : Nat) : Int)
      rw [movedAt_step HY.out t s k (by have := HN.out; omega)] at hset
      have hv := sb_or HY.out t s k
      obtain ⟨r, hr8⟩ : ∃ r, r = 8 - s := ⟨_, rfl⟩
      have hw8 : IntKind.u64.wrap (8 - (s : Int)) = (r : Int) := by rw [IntKind.wrap_u64]; omega
      rw [show t + k + 1 = t + j from by omega, ← hr8] at hv
      have hw9 : IntKind.u8.wrap ((byn xs (t + k) : Int) * 2 ^ s) = ((byn xs (t + k) * 2 ^ s % 256 : Nat) : Int) := by
        rw [IntKind.wrap_u8, Int.natCast_emod, Int.natCast_mul, Int.natCast_pow]; rfl
      have hw10 : (byn xs (t + j) : Int) / 2 ^ r = ((byn xs (t + j) / 2 ^ r : Nat) : Int) := by
        rw [Int.natCast_ediv, Int.natCast_pow]; rfl
      generalize ((byn xs (t + k) * 2 ^ s % 256 : Nat) : Int) = v1 at *
      generalize ((byn xs (t + j) / 2 ^ r : Nat) : Int) = v2 at *
      generalize ((sb xs t s k : Nat) : Int) = v at *
      have h1 := byn_lt HY.out (t + k)
      have h2 := byn_lt HY.out (t + j)
      generalize byn xs (t + k) = q at *
      generalize byn xs (t + j) = q2 at *
      rw [← hj] at hset
      have HJ := As.mk hj
      have HS := As.mk hset
      have hkn : k < n := by omega
      have hw1 : IntKind.i64.wrap ((k : Int) + 1) = (j : Int) := by rw [IntKind.wrap_i64]; omega
      have hjn : j < n := by omega
      have hmin : min r 8 = r := by omega
      clear hset hr8 hj
      go_wp2
      go_still_tail 18, (by kernel_rfl)
      change wpList _ _ _ _ _ (World.drew wr)
      go_wp2
      go_roundw
      case rel => exact ⟨j, by have := HJ.out; omega, rfl, HS, ⟨(HC3.out.setCell (p := ⟨g, k, none⟩) _ (fun _ => rfl)).drew⟩⟩
      case measure => have := HJ.out; simp [intOf]; omega
    · obtain ⟨c1, c2⟩ := own_at HO3.out k (by unfold movedAt; rw [tab_length]; have := HN.out; omega)
      rw [movedAt_rd xs t s k k (by have := HN.out; omega) (Nat.le_refl _)] at c1
      have hset := own_set HO3.out k ((sb xs t s k : Nat) : Int)
      rw [movedAt_step HY.out t s k (by have := HN.out; omega), sb_last t s k (by have := HN.out; omega)] at hset
      have hw9 : IntKind.u8.wrap ((byn xs (t + k) : Int) * 2 ^ s) = ((byn xs (t + k) * 2 ^ s % 256 : Nat) : Int) := by
        rw [IntKind.wrap_u8, Int.natCast_emod, Int.natCast_mul, Int.natCast_pow]; rfl
      generalize ((byn xs (t + k) * 2 ^ s % 256 : Nat) : Int) = v1 at *
      have h1 := byn_lt HY.out (t + k)
      generalize byn xs (t + k) = q at *
      have hw11 : (n : Int) - 1 = (k : Int) := by omega
      have hkn : k < n := by omega
      have HS : As (Own (wr.setCell ⟨g, k, none⟩ (.int .u8 v1)) base 5 .u8 (.slice (some ⟨g, 0, none⟩) n n) (shifted xs i n)) := ⟨by
        have e : k + 1 = xs.length := by have := HN.out; omega
        have h := hset
        rw [e, movedAt_end HY.out t s hs, HI.out, ← HN.out] at h
        exact h⟩
      clear hset
      have hq := HQ.out
      go_wp2_with ((with_reducible refine gate (N := 58) rfl ?_); refine wpList_append_zeros_full rfl _ _ 22 3 rfl 5 .u8 1 Try.underlying22 Try.underlying3 info8 (by decide) base g n _ rfl HS.out .i64 t rfl (by omega) ?_; intro v58 w58 hc58; have HC58 := As.mk hc58; clear hc58)
      go_end0
      exact ⟨rfl, own_keep HS.out HC58.out, (HC3.out.setCell (p := ⟨g, k, none⟩) _ (fun _ => rfl)).trans HC58.out (fun _ _ e => e.elim)⟩
end Go.Proofs.Ytmakkjkbonnjgaa
