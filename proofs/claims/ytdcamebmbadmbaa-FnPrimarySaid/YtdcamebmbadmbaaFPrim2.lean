/- FnPrimary at every length: none, up to 20 bytes, more. -/
import Derived.Test.YtdcamebmbadmbaaFPrim
set_option linter.unusedVariables false
set_option linter.unusedSimpArgs false
namespace Go.Proofs.Ytdcamebmbadmbaa
open Go.RowKit V
theorem fnPrimary_walk (A : Option Addr) (c : Nat) (xs : List Int) (W : World) (hx : Rb W A xs) (hc : xs.length ≤ c) (hb : Byt xs) (hl : xs.length ≤ 140737488351232) :
    Calls Try.prog 3 #[.slice A xs.length c] W fun e w' => e = .returned (.bool true) ∧ Below W.heap.size W w' := by
  obtain ⟨n, hn⟩ : ∃ n, n = xs.length := ⟨_, rfl⟩
  by_cases h0 : n = 0
  · rw [← hn, h0]
    clear hn hx hb hc hl
    go_enter Try.func3, Try.ntmps3
    go_wp2_with fail
    go_ret
    exact ⟨rfl, Below.refl _ _⟩
  by_cases h20 : n ≤ 20
  · have h := fnPrimary_main A n c xs W ⟨hx⟩ ⟨hn⟩ ⟨hb⟩ (by omega) h20 (by omega)
    rw [hn] at h
    exact h
  rw [← hn]
  rw [← hn] at hl
  clear hn hx hb hc
  have h1 : ((n : Int) == 0) = false := by simp; omega
  have h2 : (20 : Int) < (n : Int) := by omega
  by_cases h3 : n ≤ 2147483647
  · have h4 : ¬ (2147483647 : Int) < (n : Int) := by omega
    go_enter Try.func3, Try.ntmps3
    go_wp2_with fail
    go_ret
    exact ⟨rfl, Below.refl _ _⟩
  · have h4 : (2147483647 : Int) < (n : Int) := by omega
    go_enter Try.func3, Try.ntmps3
    go_wp2_with fail
    go_ret
    exact ⟨rfl, Below.refl _ _⟩
end Go.Proofs.Ytdcamebmbadmbaa
