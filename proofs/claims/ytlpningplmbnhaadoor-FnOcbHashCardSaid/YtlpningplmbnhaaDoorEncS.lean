/- The contracts of spec.Data and (spec.data).Encipher. -/
import Derived.Test.YtlpningplmbnhaaDoorBlk1
import Derived.Deep.DeepCutAuto
set_option linter.unusedVariables false
set_option linter.unusedSimpArgs false
namespace Go.Proofs.YtlpningplmbnhaaDoor
open Go.RowKit V
set_option maxHeartbeats 1000000 in
theorem data_any (PA : Option Addr) (pn pc : Nat) (SA : Option Addr) (sn sc : Nat) (MA : Option Addr) (mn mc : Nat) (w : World) :
    Calls Tryd.prog 10 #[blkV PA pn pc SA sn sc MA mn mc] w fun e w' => e = .returned (.iface 48 (blkV PA pn pc SA sn sc MA mn mc)) ∧ Chg NoB w w' := by
  unfold blkV
  go_enter Tryd.func10, Tryd.ntmps10
  go_wp2
  go_ret
  exact ⟨rfl, (Chg.refl NoB w).alloc _⟩
/-- The block after k rounds. -/
def encAt2 (perm sub mask xs : List Int) (n k : Nat) : List Int := tab n fun i => if i < k then Go.bits .xor .u8 (sub.getD (xs.getD (perm.getD i 0).toNat 0).toNat 0) (mask.getD i 0) else 0
theorem encAt2_step (perm sub mask xs : List Int) (n k : Nat) : (encAt2 perm sub mask xs n k).set k (Go.bits .xor .u8 (sub.getD (xs.getD (perm.getD k 0).toNat 0).toNat 0) (mask.getD k 0)) = encAt2 perm sub mask xs n (k + 1) := by
  unfold encAt2
  rw [tab_set]
  refine tab_congr fun j hj => ?_
  by_cases e : j = k
  · subst e; rw [if_pos rfl, if_pos (by omega)]
  · rw [if_neg e]
    by_cases h3 : j < k
    · rw [if_pos h3, if_pos (by omega)]
    · rw [if_neg h3, if_neg (by omega)]
theorem encAt2_zero (perm sub mask xs : List Int) (n : Nat) : encAt2 perm sub mask xs n 0 = List.replicate n 0 := by
  rw [replicate_tab]
  exact tab_congr fun j _ => if_neg (by omega)
theorem encAt2_end (perm sub mask xs : List Int) (n : Nat) (hm : mask.length = n) : encAt2 perm sub mask xs n n = encL perm sub mask xs := by
  unfold encAt2 encL
  rw [hm]
  exact tab_congr fun i hi => if_pos hi
set_option maxRecDepth 100000 in
set_option maxHeartbeats 2000000 in
theorem encipher_any (PA : Option Addr) (n pc : Nat) (SA : Option Addr) (sc : Nat) (MA : Option Addr) (mc : Nat) (perm sub mask : List Int) (XA : Option Addr) (xc : Nat) (xs : List Int) (w : World)
    (hr : RightB perm sub n) (hm : mask.length = n) (bs : Byt sub) (bm : Byt mask) (rp : Rb w PA perm) (rs : Rb w SA sub) (rm : Rb w MA mask) (rx : Rb w XA xs) (bx : Byt xs) (hxn : n = xs.length) :
    Calls Tryd.prog 52 #[blkV PA n pc SA 256 sc MA n mc, .slice XA n xc] w (Gives NoB w (encL perm sub mask xs)) := by
  obtain ⟨p1, p2, p3, p4⟩ := hr
  have HPE := As.mk p3
  have HPL := As.mk p3.1
  have HSL := As.mk p4.1
  have HM := As.mk hm
  have HBY := As.mk (And.intro bs (And.intro bm bx))
  have RX := As.mk rx
  have HN := As.mk hxn
  have R1 := As.mk rp
  have R2 := As.mk rs
  have R3 := As.mk rm
  clear rp rs rm p3 p4 hm bs bm bx rx hxn
  unfold blkV
  go_enter Tryd.func52, Tryd.ntmps52
  go_upto_region 2 with fail
  obtain ⟨w1, hw1⟩ : ∃ w1, w1 = (w.alloc (.cells #[.slice PA n pc, .slice SA 256 sc, .slice MA n mc] 48)).alloc (.cells #[.slice PA n pc, .slice SA 256 sc, .slice MA n mc] 24) := ⟨_, rfl⟩
  have C1 : As (Chg NoB w w1) := ⟨by rw [hw1]; exact ((Chg.refl NoB w).alloc _).alloc _⟩
  have b1 : Blk w1 (w.heap.size + 1) 24 [.slice PA n pc, .slice SA 256 sc, .slice MA n mc] := by
    have h := Blk.new (w.alloc (.cells #[.slice PA n pc, .slice SA 256 sc, .slice MA n mc] 48)) 24 [.slice PA n pc, .slice SA 256 sc, .slice MA n mc]
    rw [show (w.alloc (.cells #[.slice PA n pc, .slice SA 256 sc, .slice MA n mc] 48)).heap.size = w.heap.size + 1 from Array.size_push _] at h
    rw [hw1]; exact h
  rw [← hw1]
  have B1 := As.mk b1
  clear hw1 b1
  go_wp2_with ((with_reducible refine gate (N := 12) rfl ?_); refine wpList_make_k rfl _ 22 rfl 5 .u8 1 Tryd.underlying22 info8 (by decide) n _ rfl rfl (by omega) ?_
               intro w2 g2 HG2 ho2 hc2 hz2
               have O2 := As.mk ho2
               have C2 := As.mk (C1.out.trans hc2 (fun _ _ e => e))
               have B2 := As.mk (B1.out.chg hc2 (fun e => e))
               have Z2 := As.mk hz2
               clear ho2 hc2 hz2)
  have HGB : As (w.heap.size + 1 < g2) := ⟨by rw [HG2.out]; exact B1.out.lt⟩
  have O3 : As (Own w2 (w.heap.size + 2) 5 .u8 (.slice (some ⟨g2, 0, none⟩) n n) (encAt2 perm sub mask xs n 0)) := ⟨by rw [encAt2_zero]; exact own_lower O2.out B1.out.lt⟩
  clear O2
  go_loopw [15] (fun i wr => ∃ k : Nat, k ≤ n ∧ i = .int .i64 k ∧ As (Own wr (w.heap.size + 2) 5 .u8 (.slice (some ⟨g2, 0, none⟩) n n) (encAt2 perm sub mask xs n k)) ∧ As (Chg (fun b => b = g2) w2 wr)) (fun i _ => n - (intOf i).toNat)
  case atStart => exact ⟨0, Nat.zero_le _, rfl, O3, ⟨Chg.refl _ _⟩⟩
  case round =>
    obtain ⟨k, hk, rfl, HOY, HC⟩ := hrel
    have HCw : As (Chg NoB w wr) := ⟨C2.out.trans HC.out (fun b hb e => by have := HGB.out; omega)⟩
    by_cases hlt : k < n
    · have hBr := B2.out.chg HC.out (fun e => by have := HGB.out; omega)
      have x0 := hBr.cell 0
      have x1 := hBr.cell 1
      have x2 := hBr.cell 2
      simp only [List.getElem?_cons_zero, List.getElem?_cons_succ] at x0 x1 x2
      obtain ⟨ap, rfl, c1⟩ := (R1.out.keep HCw.out).at_ (k : Int) (by omega) (by have := HPL.out; omega)
      rw [Int.toNat_natCast, rd_nat] at c1
      obtain ⟨q0, q1⟩ := perms_at HPE.out k hlt
      obtain ⟨q, hq⟩ := Int.eq_ofNat_of_zero_le q0
      rw [hq] at c1 q1
      obtain ⟨ax, rfl, c2⟩ := (RX.out.keep HCw.out).at_ (q : Int) (by omega) (by have := HN.out; omega)
      rw [Int.toNat_natCast, rd_nat] at c2
      obtain ⟨v0, v1⟩ := HBY.out.2.2.getD q
      obtain ⟨v, hv⟩ := Int.eq_ofNat_of_zero_le v0
      rw [hv] at c2 v1
      obtain ⟨as_, rfl, c3⟩ := (R2.out.keep HCw.out).at_ (v : Int) (by omega) (by have := HSL.out; omega)
      rw [Int.toNat_natCast, rd_nat] at c3
      obtain ⟨am, rfl, c4⟩ := (R3.out.keep HCw.out).at_ (k : Int) (by omega) (by have := HM.out; omega)
      rw [Int.toNat_natCast, rd_nat] at c4
      have hset := own_set HOY.out k (Go.bits .xor .u8 (sub.getD v 0) (mask.getD k 0))
      have hst := encAt2_step perm sub mask xs n k
      rw [hq, Int.toNat_natCast, hv, Int.toNat_natCast] at hst
      rw [hst] at hset
      have HSET := As.mk hset
      obtain ⟨f0, f1⟩ := own_at HOY.out k (by rw [show (encAt2 perm sub mask xs n k).length = n from tab_length _ _]; omega)
      obtain ⟨s0, s1⟩ := HBY.out.1.getD v
      obtain ⟨m0, m1⟩ := HBY.out.2.1.getD k
      generalize sub.getD v 0 = sv at *
      generalize mask.getD k 0 = mv at *
      have i3 : (q : Int) < (n : Int) := by omega
      have i4 : v < 256 := by omega
      have i5 : (v : Int) < 256 := by omega
      have i6 : (k : Int) < (n : Int) := by omega
      have i7 : q < n := by omega
      clear q0 hq v0 hv hset hst hBr
      go_wp2
      go_still_tail 21, (by kernel_rfl)
      change wpList _ _ _ _ _ (World.drew wr)
      go_wp2
      go_roundw
      case rel => exact ⟨k + 1, by omega, by go_num, HSET, ⟨(HC.out.setCell (p := ⟨g2, k, none⟩) _ (fun _ => rfl)).drew⟩⟩
      case measure => simp [intOf]; omega
    · obtain rfl : k = n := by omega
      go_wp2
      go_ret
      have ho := own_lower (base' := w.heap.size) HOY.out (by omega)
      rw [encAt2_end _ _ _ _ _ HM.out] at ho
      have hl : (encL perm sub mask xs).length = k := by rw [encL_length]; exact HM.out
      exact ⟨_, rfl, ho, HCw.out⟩
end Go.Proofs.YtlpningplmbnhaaDoor
