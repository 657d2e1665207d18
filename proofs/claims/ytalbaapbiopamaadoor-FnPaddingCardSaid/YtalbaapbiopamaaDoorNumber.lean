/- The contract of spec.ReadLength. -/
import Derived.Test.YtalbaapbiopamaaDoorNum
set_option linter.unusedVariables false
set_option linter.unusedSimpArgs false
namespace Go.Proofs.YtalbaapbiopamaaDoor
open Go.RowKit V
/-- A length of the new form, as it is read: the length, whether it is partial, its own size, how it went (0: fine, 1: short). -/
def rlen (xs : List Int) : Int × Bool × Int × Int :=
  if xs.length = 0 then (0, false, 0, 1)
  else if rd xs 0 < 192 then (rd xs 0, false, 1, 0)
  else if rd xs 0 < 224 then (if xs.length < 2 then (0, false, 0, 1) else ((rd xs 0 - 192) * 256 + rd xs 1 + 192, false, 2, 0))
  else if rd xs 0 < 255 then (2 ^ (rd xs 0 % 32).toNat, true, 1, 0)
  else if xs.length < 5 then (0, false, 0, 1)
  else (numL (xs.tail.take 4), false, 5, 0)
def rlenV (r : Int × Bool × Int × Int) : Value := .tuple #[.int .i64 r.1, .bool r.2.1, .int .i64 r.2.2.1, .int .i64 r.2.2.2]
theorem and31N : ∀ t : Nat, t < 256 → bits BinOp.and .i64 (t : Int) 31 = (t : Int) % 32 := by decide +kernel
theorem and31 {t : Int} (h : 0 ≤ t) (h2 : t ≤ 255) : bits BinOp.and .i64 t 31 = t % 32 := by
  obtain ⟨n, rfl⟩ := Int.eq_ofNat_of_zero_le h
  exact and31N n (by omega)
def RL (xs : List Int) (w : World) (e : Ending) (w' : World) : Prop := e = .returned (rlenV (rlen xs)) ∧ w' = w
theorem RL.of {xs : List Int} {w : World} {r : Int × Bool × Int × Int} (h : As (rlen xs = r)) : RL xs w (.returned (rlenV r)) w := ⟨by rw [h.out], rfl⟩
set_option maxRecDepth 100000 in
set_option maxHeartbeats 1000000 in
theorem readLength_any (A : Option Addr) (n c : Nat) (xs : List Int) (w : World) (hn : n = xs.length) (hnc : n ≤ c) (hx : Rb w A xs) (hb : Byt xs) :
    Calls Tryd.prog 12 #[.slice A n c] w (RL xs w) := by
  have HN := As.mk hn
  have HB := As.mk hb
  by_cases h0 : n = 0
  · have hr : As (rlen xs = (0, false, 0, 1)) := ⟨by unfold rlen; rw [if_pos (by omega)]⟩
    subst h0
    clear hn
    go_enter Tryd.func12, Tryd.ntmps12
    go_wp2
    (try simp only [Exit.inBlock, Exit.then])
    refine bodyPost_ret (results_tmp4 rfl _ _ _) rfl ?_
    exact RL.of hr
  · obtain ⟨a0, rfl, hc0⟩ := hx.at_ 0 (by omega) (by omega)
    simp only [Int.toNat_zero, Addr.add, if_true] at hc0
    have hrd := hb.rd 0
    have r1 := hrd.1
    have r2 := hrd.2
    have hr : As (rlen xs = if rd xs 0 < 192 then (rd xs 0, false, 1, 0) else if rd xs 0 < 224 then (if xs.length < 2 then (0, false, 0, 1) else ((rd xs 0 - 192) * 256 + rd xs 1 + 192, false, 2, 0)) else if rd xs 0 < 255 then (2 ^ (rd xs 0 % 32).toNat, true, 1, 0) else if xs.length < 5 then (0, false, 0, 1) else (numL (xs.tail.take 4), false, 5, 0)) :=
      ⟨by rw [rlen, if_neg (by omega)]⟩
    have HX := As.mk hx
    have h31 := and31 r1 r2
    have HC1 : As (2 ≤ xs.length → w.cell? (a0.add 1) = some (.int .u8 (rd xs 1))) := ⟨fun h2 => by
      obtain ⟨a1, e1, hc1⟩ := hx.at_ 1 (by omega) (by omega)
      injection e1 with e1
      subst e1
      exact hc1⟩
    have hr1 := hb.rd 1
    have r11 := hr1.1
    have r12 := hr1.2
    clear hx hb hrd hr1
    generalize rd xs 0 = f at *
    generalize rd xs 1 = f1 at *
    by_cases h1 : f < 192
    · rw [if_pos h1] at hr
      clear hn
      go_enter Tryd.func12, Tryd.ntmps12
      go_wp2
      (try simp only [Exit.inBlock, Exit.then])
      refine bodyPost_ret (results_tmp4 rfl _ _ _) rfl ?_
      exact RL.of hr
    · rw [if_neg h1] at hr
      by_cases h2 : f < 224
      · rw [if_pos h2] at hr
        by_cases h3 : n < 2
        · rw [if_pos (by omega)] at hr
          clear hn
          go_enter Tryd.func12, Tryd.ntmps12
          go_wp2
          (try simp only [Exit.inBlock, Exit.then])
          refine bodyPost_ret (results_tmp4 rfl _ _ _) rfl ?_
          exact RL.of hr
        · rw [if_neg (by omega)] at hr
          have hc1 := HC1.out (by omega)
          simp [Addr.add] at hc1
          have hlt : (1 : Int) < (n : Int) := by omega
          clear hn
          go_enter Tryd.func12, Tryd.ntmps12
          go_wp2
          (try simp only [Exit.inBlock, Exit.then])
          refine bodyPost_ret (results_tmp4 rfl _ _ _) rfl ?_
          exact RL.of hr
      · rw [if_neg h2] at hr
        by_cases h4 : f < 255
        · rw [if_pos h4] at hr
          have hm : (f % 32).toNat < 32 := by omega
          have hp : ∀ m : Nat, m < 32 → wrap64 ((2 : Int) ^ m) = 2 ^ m := by decide +kernel
          have hp2 := hp _ hm
          clear hn hp hm
          go_enter Tryd.func12, Tryd.ntmps12
          go_wp2
          (try simp only [Exit.inBlock, Exit.then])
          refine bodyPost_ret (results_tmp4 rfl _ _ _) rfl ?_
          exact RL.of hr
        · rw [if_neg h4] at hr
          by_cases h5 : n < 5
          · rw [if_pos (by omega)] at hr
            clear hn
            go_enter Tryd.func12, Tryd.ntmps12
            go_wp2
            (try simp only [Exit.inBlock, Exit.then])
            refine bodyPost_ret (results_tmp4 rfl _ _ _) rfl ?_
            exact RL.of hr
          · rw [if_neg (by omega)] at hr
            obtain ⟨A2, hcut, _, hA2⟩ := cut_mid (P := Tryd.prog) 23 5 Tryd.underlying23 size8 (some a0) n c 1 5 .i64 .i64 4 (c - 1) (by omega) (by omega) (by omega) (by omega)
            have hA3 := hA2 w .u8 xs (by omega) (by omega) HX.out
            rw [show (1 : Int).toNat = 1 from rfl, List.drop_one] at hA3
            have HA3 := As.mk hA3
            have HL4 : As (4 = (xs.tail.take 4).length) := ⟨by rw [List.length_take, List.length_tail]; omega⟩
            have HB4 : As (Byt (xs.tail.take 4)) := ⟨by rw [← List.drop_one]; exact (HB.out.drop 1).take 4⟩
            clear hn hA2 hA3
            go_enter Tryd.func12, Tryd.ntmps12
            go_wp2_with fail
            refine (number_any A2 4 (c - 1) (xs.tail.take 4) _ HL4.out HA3.out HB4.out (by omega)).mono ?_
            rintro e w1 ⟨rfl, rfl⟩
            go_wp2_with fail
            (try simp only [Exit.inBlock, Exit.then])
            refine bodyPost_ret (results_tmp4 rfl _ _ _) rfl ?_
            exact RL.of hr
end Go.Proofs.YtalbaapbiopamaaDoor
