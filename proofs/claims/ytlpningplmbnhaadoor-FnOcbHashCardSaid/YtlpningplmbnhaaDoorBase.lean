/- Contracts of small helpers: SameBytes, own. -/
import Derived.Test.YtlpningplmbnhaaDoorProg
import Derived.Test.YtlpningplmbnhaaDoorV2
set_option linter.unusedVariables false
set_option linter.unusedSimpArgs false
namespace Go.Proofs.YtlpningplmbnhaaDoor
open Go.RowKit V

theorem info8 : (Tryd.prog.info? 5).map (fun i => (i.zero, i.size, i.bytes)) = some (some (.int .u8 0), 1, 1) := by kernel_rfl
theorem size8 : (Tryd.prog.info? 5).map (·.size) = some 1 := by kernel_rfl
/-- What a call hands back: a row of its own that reads as xs; nothing that was has turned but the blocks of S. -/
def Gives (S : Nat → Prop) (w : World) (xs : List Int) (e : Ending) (w' : World) : Prop :=
  ∃ v, e = .returned v ∧ Own w' w.heap.size 5 .u8 v xs ∧ Chg S w w'

set_option maxHeartbeats 400000 in
theorem own_any (A : Option Addr) (n c : Nat) (xs : List Int) (w : World) (hn : n = xs.length) (hx : Rb w A xs) (hl : xs.length ≤ 140737488355328) :
    Calls Tryd.prog 15 #[.slice A n c] w (Gives NoB w xs) := by
  subst hn
  go_enter Tryd.func15, Tryd.ntmps15
  go_wp2_with (at_builtin; refine wpList_append_rk rfl _ _ 22 rfl 5 .u8 1 Tryd.underlying22 info8 (by decide) (.slice none 0 0) w.heap.size [] xs A c rfl rfl (own_nil _ _ _ _) hx (Nat.le_refl _) (by simp; omega) ?_; intro v1 w1 ho hg _)
  go_ret
  exact ⟨v1, rfl, by simpa using ho, (Chg.refl _ _).grown hg (fun k _ e => by cases e)⟩

set_option maxHeartbeats 400000 in
theorem same_any (A0 : Option Addr) (n0 c0 : Nat) (xs : List Int) (A1 : Option Addr) (n1 c1 : Nat) (ys : List Int) (w : World) (hn0 : n0 = xs.length) (hn1 : n1 = ys.length) (hx : Rb w A0 xs) (hy : Rb w A1 ys) :
    Calls Tryd.prog 8 #[.slice A0 n0 c0, .slice A1 n1 c1] w fun e w' => e = .returned (.bool (decide (xs = ys))) ∧ ∃ n, w' = w.drewN n := by
  subst hn0
  subst hn1
  have HX := As.mk hx
  have HY := As.mk hy
  have hm := hx.1
  clear hx hy
  by_cases hl : xs.length = ys.length
  · have HL := As.mk hl
    have hb : (((xs.length : Int)) != (ys.length : Int)) = false := by simp [hl]
    have hb2 : (xs.length != ys.length) = false := by simp [hl]
    have hl1 : xs.length ≤ ys.length := by omega
    clear hl
    go_enter Tryd.func8, Tryd.ntmps8
    go_wp2
    go_loopw [13] (fun i w' => ∃ k : Nat, k ≤ xs.length ∧ i = .int .i64 k ∧ As (xs.take k = ys.take k) ∧ As (∃ n, w' = w.drewN n)) (fun i _ => xs.length - (intOf i).toNat)
    case atStart => exact ⟨0, Nat.zero_le _, rfl, ⟨by simp⟩, ⟨0, rfl⟩⟩
    case round =>
      obtain ⟨k, hk, rfl, HT, HN⟩ := hrel
      by_cases hlt : k < xs.length
      · obtain ⟨a0, rfl, hc0⟩ := HX.out.at_ (k : Int) (by omega) (by omega)
        obtain ⟨a1, rfl, hc1⟩ := HY.out.at_ (k : Int) (by omega) (by omega)
        obtain ⟨n, rfl⟩ := HN.out
        simp only [Int.toNat_natCast] at hc0 hc1
        have hlt2 : k < ys.length := by omega
        have hg0 : rd xs (k : Int) = xs[k] := by simp [rd, List.getD_eq_getElem?_getD, List.getElem?_eq_getElem hlt]
        have hg1 : rd ys (k : Int) = ys[k] := by simp [rd, List.getD_eq_getElem?_getD, List.getElem?_eq_getElem hlt2]
        have ht0 : xs.take (k + 1) = xs.take k ++ [xs[k]] := List.take_succ_eq_append_getElem hlt
        have ht1 : ys.take (k + 1) = ys.take k ++ [ys[k]] := List.take_succ_eq_append_getElem hlt2
        by_cases he : rd xs (k : Int) = rd ys (k : Int)
        · have HE : As (xs.take (k + 1) = ys.take (k + 1)) := ⟨by rw [ht0, ht1, HT.out, ← hg0, ← hg1, he]⟩
          have hne : (rd xs (k : Int) != rd ys (k : Int)) = false := by simp [he]
          clear hg0 hg1 ht0 ht1 he HN HT
          go_wp2
          go_quiet (fail)
          go_wp2
          go_roundw
          case rel => exact ⟨k + 1, by omega, by go_num, HE, ⟨n + nq, by simp⟩⟩
          case measure => simp [intOf]; omega
        · have HE : As (¬ xs = ys) := ⟨fun e => he (by subst e; rfl)⟩
          have hne : (rd xs (k : Int) != rd ys (k : Int)) = true := by simp [he]
          clear hg0 hg1 ht0 ht1 he HN HT
          go_wp2
          go_quiet (fail)
          go_wp2
          go_ret
          exact ⟨by rw [decide_eq_false HE.out]; rfl, n + nq, by simp⟩
      · have HE : As (xs = ys) := ⟨by have := HT.out; rw [List.take_of_length_le (by omega), List.take_of_length_le (by have := HL.out; omega)] at this; exact this⟩
        go_wp2
        go_ret
        exact ⟨by rw [decide_eq_true HE.out]; rfl, HN.out⟩
  · have hb : (((xs.length : Int)) != (ys.length : Int)) = true := by simp; omega
    have hb2 : (xs.length != ys.length) = true := by simp; omega
    have HL : As (¬ xs = ys) := ⟨fun e => hl (by rw [e])⟩
    clear hl
    go_enter Tryd.func8, Tryd.ntmps8
    go_wp2
    go_ret
    exact ⟨by rw [decide_eq_false HL.out]; rfl, 0, rfl⟩
/-- .. where they are known to be the same. -/
theorem same_yes (A0 : Option Addr) (n0 c0 : Nat) (xs : List Int) (A1 : Option Addr) (n1 c1 : Nat) (w : World) (hn0 : n0 = xs.length) (hn1 : n1 = xs.length) (hx : Rb w A0 xs) (hy : Rb w A1 xs) :
    Calls Tryd.prog 8 #[.slice A0 n0 c0, .slice A1 n1 c1] w fun e w' => e = .returned (.bool true) ∧ ∃ n, w' = w.drewN n :=
  (same_any A0 n0 c0 xs A1 n1 c1 xs w hn0 hn1 hx hy).mono fun _ _ ⟨he, hw⟩ => ⟨by simpa using he, hw⟩
end Go.Proofs.YtlpningplmbnhaaDoor
