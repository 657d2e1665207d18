/- The contract of spec.Number. -/
import Derived.Test.YtalbaapbiopamaaDoorBase
import Derived.Test.YtalbaapbiopamaaDoorBitsP
set_option linter.unusedVariables false
set_option linter.unusedSimpArgs false
namespace Go.Proofs.YtalbaapbiopamaaDoor
open Go.RowKit V
set_option maxRecDepth 100000 in
set_option maxHeartbeats 1000000 in
theorem number_any (A : Option Addr) (n c : Nat) (xs : List Int) (w : World) (hn : n = xs.length) (hx : Rb w A xs) (hb : Byt xs) (hl : n ≤ 6) :
    Calls Tryd.prog 15 #[.slice A n c] w fun e w' => e = .returned (.int .i64 (numL xs)) ∧ w' = w := by
  have HX := As.mk hx
  have HB := As.mk hb
  have HN := As.mk hn
  clear hx hb hn
  go_enter Tryd.func15, Tryd.ntmps15
  go_wp2
  go_loopw [3, 5, 8] (fun v u i w' => ∃ k : Nat, k ≤ n ∧ i = .int .i64 k ∧ v = .int .i64 (numL (xs.take k)) ∧ w' = w) (fun v u i _ => n - (intOf i).toNat)
  case atStart => exact ⟨0, Nat.zero_le _, rfl, rfl, rfl⟩
  case round =>
    obtain ⟨k, hk, rfl, rfl, rfl⟩ := hrel
    by_cases hlt : k < n
    · obtain ⟨a0, rfl, hc0⟩ := HX.out.at_ (k : Int) (by omega) (by have := HN.out; omega)
      simp only [Int.toNat_natCast] at hc0
      have hbd := numL_small HB.out k (by have := HN.out; omega) (by omega)
      have hrd := HB.out.rd (k : Int)
      have HT := As.mk (numL_take (xs := xs) (k := k) (by have := HN.out; omega))
      have h1 := hbd.1
      have h2 := hbd.2
      generalize numL (xs.take k) = m at *
      have hor := i64_or256 h1 (by omega) hrd.1 hrd.2
      go_wp2
      exact ⟨⟨k + 1, by omega, by go_num, by rw [HT.out], trivial⟩, by simp [intOf]; omega⟩
    · obtain rfl : k = n := by omega
      go_wp2
      go_ret
      exact ⟨by rw [show numL xs = numL (xs.take k) from by rw [List.take_of_length_le (by have := HN.out; omega)]]; rfl, rfl⟩
theorem results_tmp4 {fn : Func} {t u v x : Tmp} (h : fn.results = #[.tmp t, .tmp u, .tmp v, .tmp x]) (tmps : Array Value) (P : Program) (w : World) :
    (results fn tmps).run P w = .ok (.tuple #[tmps.getD t undef, tmps.getD u undef, tmps.getD v undef, tmps.getD x undef]) w := by
  simp [results, h]
end Go.Proofs.YtalbaapbiopamaaDoor
