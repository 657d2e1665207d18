/- The contract of laws.total: how many bytes some pieces have. -/
import Derived.Test.YtphnjfbaioblbaaDoorFit2
set_option linter.unusedVariables false
set_option linter.unusedSimpArgs false
namespace Go.Proofs.YtphnjfbaioblbaaDoor
open Go.RowKit V
def sumL (vs : List Sl) : Nat := (vs.map (·.2.1)).sum
theorem sumL_step (vs : List Sl) (k : Nat) (h : k < vs.length) : sumL (vs.take (k + 1)) = sumL (vs.take k) + vs[k].2.1 := by
  have he : vs.take (k + 1) = vs.take k ++ [vs[k]] := by
    rw [List.take_add_one, List.getElem?_eq_getElem h]; rfl
  unfold sumL
  rw [he, List.map_append, List.sum_append]
  rfl
theorem sumL_le (B : Nat) (vs : List Sl) (hv : ∀ v ∈ vs, v.2.1 ≤ B) (k : Nat) : sumL (vs.take k) ≤ k * B := by
  induction k with
  | zero => simp [sumL]
  | succ k ih =>
    rw [Nat.add_mul, Nat.one_mul]
    by_cases h : k < vs.length
    · rw [sumL_step vs k h]
      exact Nat.add_le_add ih (hv _ (List.getElem_mem h))
    · rw [List.take_of_length_le (by omega)] at ih ⊢
      exact Nat.le_trans ih (Nat.le_add_right _ _)
set_option maxHeartbeats 400000 in
theorem total_any (A : Option Addr) (n c : Nat) (vs : List Sl) (w : World) (hn : n = vs.length) (hr : Rs w A vs) (hf : Fits2 n vs) :
    Calls Tryd.prog 5 #[.slice A n c] w fun e w' => e = .returned (.int .i64 (sumL vs : Nat)) ∧ w' = w := by
  have HR := As.mk hr
  have HN := As.mk hn
  have HF := As.mk hf
  have hn1 := hf.1
  clear hr hn hf
  go_enter Tryd.func5, Tryd.ntmps5
  go_wp2_with fail
  go_loop [3, 8] (fun v i => ∃ k s : Nat, k ≤ n ∧ i = .int .i64 k ∧ v = .int .i64 s ∧ As (s = sumL (vs.take k))) (fun _ i => n - (intOf i).toNat)
  case atStart => exact ⟨0, 0, Nat.zero_le _, rfl, rfl, ⟨rfl⟩⟩
  case round =>
    obtain ⟨k, s, hk, rfl, rfl, HS⟩ := hrel
    by_cases hlt : k < n
    · have hkv : k < vs.length := by have := HN.out; omega
      obtain ⟨ad, rfl, hc⟩ := HR.out.at_ k hkv
      have hstep := sumL_step vs k hkv
      have hb := sumL_le 2147483647 vs HF.out.2 k
      have hq := HF.out.2 _ (List.getElem_mem hkv)
      generalize vs[k].2.1 = q at *
      have e1 : IntKind.i64.wrap ((s : Int) + (q : Int)) = ((s + q : Nat) : Int) := by have := HS.out; rw [IntKind.wrap_i64]; omega
      have HS2 : As (s + q = sumL (vs.take (k + 1))) := ⟨by rw [hstep, HS.out]⟩
      clear hstep hb hq
      go_wp2_with fail
      go_round
      case rel => exact ⟨k + 1, s + q, by omega, by go_num, rfl, HS2⟩
      case measure => simp [intOf]; omega
    · have hlt2 : ¬ ((k : Int) < (n : Int)) := by omega
      have HE : As (s = sumL vs) := ⟨by rw [HS.out, List.take_of_length_le (by have := HN.out; omega)]⟩
      go_wp2_with fail
      go_ret
      exact ⟨by rw [HE.out]; rfl, rfl⟩
end Go.Proofs.YtphnjfbaioblbaaDoor
