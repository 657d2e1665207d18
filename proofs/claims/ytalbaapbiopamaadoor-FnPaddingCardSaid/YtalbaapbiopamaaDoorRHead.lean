/- The contract of spec.ReadHead, at a header of the new form. -/
import Derived.Test.YtalbaapbiopamaaDoorNumber
import Derived.Test.YtalbaapbiopamaaDoorV3
import Derived.Laws.ResultCell
set_option linter.unusedVariables false
set_option linter.unusedSimpArgs false
namespace Go.Proofs.YtalbaapbiopamaaDoor
open Go.RowKit V
theorem and128N : ∀ t : Nat, t < 256 → 128 ≤ t → bits BinOp.and .i64 (t : Int) 128 = 128 := by decide +kernel
theorem and64N : ∀ t : Nat, t < 256 → 192 ≤ t → bits BinOp.and .i64 (t : Int) 64 = 64 := by decide +kernel
theorem and63IN : ∀ t : Nat, t < 256 → 192 ≤ t → bits BinOp.and .i64 (t : Int) 63 = (t : Int) - 192 := by decide +kernel
set_option maxRecDepth 100000 in
set_option maxHeartbeats 1000000 in
theorem readHead_new (A : Option Addr) (n c : Nat) (xs : List Int) (w : World) (m sz a : Nat) (p : Bool) (g : Int) (hn : n = xs.length) (hnc : n ≤ c) (hx : Rb w A xs) (hb : Byt xs)
    (hp : 0 < n) (hg : 0 ≤ g) (hf : rd xs 0 = 192 + g) (hr : rlen xs.tail = ((m : Int), p, (sz : Int), 0)) (ha : a = 1 + sz) (hsz : sz ≤ 5) (hm : m ≤ 4294967296) :
    Calls Tryd.prog 11 #[.slice A n c] w fun e w' => e = .returned (.tuple #[.agg #[.int .i64 g, .bool false, .int .i64 m, .bool p, .int .i64 a], .int .i64 0]) ∧ Chg NoB w w' := by
  have hrd := hb.rd 0
  have r1 : 192 ≤ rd xs 0 := by omega
  have r2 := hrd.2
  obtain ⟨f, hfe⟩ := Int.eq_ofNat_of_zero_le hrd.1
  rw [hfe] at hf r1 r2
  have h128 := and128N f (by omega) (by omega)
  have h64 := and64N f (by omega) (by omega)
  have h63 := and63IN f (by omega) (by omega)
  rw [show (f : Int) - 192 = g from by omega] at h63
  have hne : ((n : Int) == 0) = false := by simp; omega
  obtain ⟨a0, rfl, _⟩ := hx.at_ 0 (by omega) (by omega)
  have hc0 : ∀ o, (w.alloc o).cell? a0 = some (.int .u8 f) := fun o => by
    obtain ⟨ad, e, hc⟩ := (hx.alloc o).at_ 0 (by omega) (by omega)
    injection e with e
    subst e
    simp only [Int.toNat_zero, Addr.add, if_true] at hc
    rw [hc, hfe]
  obtain ⟨A2, hcut, _, hA2⟩ := cut_from (P := Tryd.prog) 23 5 Tryd.underlying23 size8 (some a0) n c 1 .i64 (n - 1) (c - 1) (by omega) (by omega) (by omega) hnc
  have hA3 := fun w1 (h1 : Rb w1 (some a0) xs) => hA2 w1 .u8 xs hn.symm h1
  rw [show (1 : Int).toNat = 1 from rfl, List.drop_one] at hA3
  have HA3 := As.mk hA3
  have HX := As.mk hx
  have HB := As.mk hb
  have HR := As.mk hr
  have HN := As.mk hn
  have has : 1 + (sz : Int) = (a : Int) := by omega
  clear hx hb hr hA2 hA3 hn hrd hf hfe r1 ha
  go_enter Tryd.func11, Tryd.ntmps11
  go_wp2_with fail
  refine (readLength_any A2 (n - 1) (c - 1) xs.tail _ (by rw [List.length_tail]; have := HN.out; omega) (by omega) (HA3.out _ (HX.out.alloc _)) (by rw [← List.drop_one]; exact HB.out.drop 1)).mono ?_
  rintro e w1 ⟨he, rfl⟩
  rw [HR.out] at he
  simp only [rlenV] at he
  subst he
  go_wp2_with fail
  refine bodyPost_ret (v := .tuple #[.agg #[.int .i64 g, .bool false, .int .i64 m, .bool p, .int .i64 a], .int .i64 0]) ?_ rfl ⟨rfl, ?_⟩
  · rw [results_cell_tmp rfl]
    go_simp
  · repeat (first | exact Chg.refl _ _ | (with_reducible apply Chg.alloc) | (refine Chg.setCell ?_ _ (fun h => absurd h (Nat.lt_irrefl _))))
end Go.Proofs.YtalbaapbiopamaaDoor
