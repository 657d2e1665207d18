/- The walk of FnPadding. -/
import Derived.Test.YtalbaapbiopamaaDoorPadI
import Derived.Test.YtalbaapbiopamaaDoorDoorK4
import Derived.Deep.Cut
set_option linter.unusedVariables false
set_option linter.unusedSimpArgs false
namespace Go.Proofs.YtalbaapbiopamaaDoor
open Go.RowKit V
theorem wp_worldP {P : Program} {code : Code} {Q : Exit → Act → World → Prop} {a : Act} {w : World} (R : World → Prop) (h : R w) (k : ∀ w', R w' → code.wp P Q a w') : code.wp P Q a w := k w h
theorem sent_of4 {W : World} {a0 a1 a2 a3 : Addr} (h : Sent4 W a0 a1 a2 a3) : Sent W a2 a3 := by
  obtain ⟨_, _, h2, h3, _, _, _, _, _, n23, _, _, k2, k3⟩ := h
  exact ⟨h2, h3, n23, k2, k3⟩
set_option maxRecDepth 100000 in
set_option maxHeartbeats 2000000 in
theorem fnPadding_walk (nn : Int) (A : Option Addr) (c : Nat) (xs : List Int) (W : World) (b0 b1 a0 a1 : Addr) (hS : Sent4 W b0 b1 a0 a1) (wn : (Lit.int .u16 nn).wf = true) (hx : Rb W A xs) (hc : xs.length ≤ c) (hb : Byt xs) (hl : xs.length ≤ 140737488351232) :
    Calls Tryd.prog 3 #[.int .u16 nn, .slice A xs.length c] W fun e W' => e = .returned (.bool true) ∧ Below W.heap.size W W' := by
  have hn0 := wf_u16_lt wn
  obtain ⟨n, rfl⟩ : ∃ n : Nat, nn = n := ⟨nn.toNat, by omega⟩
  have hn : n ≤ 65535 := by omega
  have HS := As.mk (sent_of4 hS)
  have HX := As.mk hx
  have HB := As.mk hb
  obtain ⟨l, hll⟩ : ∃ l, l = xs.length := ⟨_, rfl⟩
  rw [← hll]
  rw [← hll] at hl hc
  have HN := As.mk hll
  clear wn hx hb hll hS hn0
  have e0 : IntKind.i64.wrap (n : Int) = n := by rw [IntKind.wrap_i64]; omega
  by_cases h2 : l ≤ 1048576
  · have h2a : ¬ (2147483647 : Int) < (l : Int) := by omega
    have h2b : ¬ (1048576 : Int) < (l : Int) := by omega
    go_enter Tryd.func3, Tryd.ntmps3
    go_wp2_with fail
    refine (readPadding_any n l c A xs _ a0 a1 HS.out HN.out hc HX.out (by omega) h2).mono ?_
    rintro e w1 ⟨rfl, hc1⟩
    have HC1 := As.mk hc1
    clear hc1
    by_cases hnl : l < n
    · have hpe : padEnd n l = 1 := by unfold padEnd; rw [if_neg (by omega)]
      have HPE := As.mk hpe
      rw [hpe]
      have hlz : (l : Int) < (n : Int) := by omega
      clear hpe hnl
      go_wp2_with fail
      refine (writePadding_any n l c A xs _ a0 a1 (HS.out.keep HC1.out) HN.out hc (HX.out.keep HC1.out) hn h2).mono ?_
      rintro e w2 ⟨v, rfl, _, hc2⟩
      rw [HPE.out]
      have HC2 := As.mk (HC1.out.trans hc2 (fun _ _ e => e))
      clear hc2
      go_wp2_with fail
      go_ret
      exact ⟨rfl, HC2.out.below (Nat.le_refl _) (fun _ _ e => e)⟩
    · have hpe : padEnd n l = 0 := by unfold padEnd; rw [if_pos (by omega)]
      have HPE := As.mk hpe
      rw [hpe]
      have hlz : ¬ ((l : Int) < (n : Int)) := by omega
      have hle : n ≤ l := by omega
      have e1 : IntKind.i64.wrap ((l : Int) - (n : Int)) = ((l - n : Nat) : Int) := by rw [IntKind.wrap_i64]; omega
      have hmin : min n xs.length = n := by rw [← HN.out]; omega
      have HMN := As.mk hmin
      clear hpe hnl hmin
      have HLL := As.mk (lenL_length n)
      have HBL := As.mk (lenL_byt n)
      have HRL := As.mk (rlen_lenL n (xs.take n) (by omega))
      have HTN : As (n = (xs.take n).length) := ⟨by rw [List.length_take, ← HN.out]; omega⟩
      obtain ⟨L, hL⟩ : ∃ L, L = [192 + 21] ++ lenL n ++ xs.take n := ⟨_, rfl⟩
      obtain ⟨N, hN⟩ : ∃ N, N = L.length := ⟨_, rfl⟩
      have hN2 : N = 1 + (lenL n).length + n := by rw [hN, hL]; simp only [List.length_append, List.length_singleton]; rw [← HTN.out]
      have hLL := HLL.out
      have HRP : As (∀ A1 c1 w, N ≤ c1 → Rb w A1 L → Calls Tryd.prog 6 #[.slice A1 N c1] w fun e w' => ∃ v, e = .returned (.tuple #[.agg #[.int .i64 21, v], .int .i64 N, .int .i64 0]) ∧ Ow w' w.heap.size 5 .u8 v (xs.take n) ∧ Chg NoB w w') :=
        ⟨fun A1 c1 w hc1 hr1 => by
          have hBy : Byt L := by
            rw [hL]
            exact Byt.append (Byt.append (fun x hx => by simp at hx; omega) HBL.out) (HB.out.take n)
          have h := readPacket_new A1 N c1 L w n (lenL n).length (1 + (lenL n).length) N 21 hN hc1 hr1 hBy (by omega) (by omega) (by rw [hL]; simp [rd]) (by rw [hL]; simpa using HRL.out) rfl hLL (by omega) hN2 (Nat.le_refl _) (by omega)
          have e : (L.drop (1 + (lenL n).length)).take n = xs.take n := by
            rw [hL, Nat.add_comm 1, List.append_assoc]
            have h1 : ([192 + 21] ++ (lenL n ++ xs.take n)).drop ((lenL n).length + 1) = xs.take n := by simp
            rw [h1, List.take_of_length_le (by rw [← HTN.out]; exact Nat.le_refl _)]
          rw [e] at h
          exact h⟩
      have HNL := As.mk hN
      have HL' := As.mk hL
      clear hN hN2 HRL HLL HBL hLL hL
      go_wp2_with fail
      refine (writePadding_any n l c A xs _ a0 a1 (HS.out.keep HC1.out) HN.out hc (HX.out.keep HC1.out) hn h2).mono ?_
      rintro e w2 ⟨v2, rfl, ho2, hc2⟩
      rw [HPE.out]
      rw [HMN.out, ← HL'.out] at ho2
      obtain ⟨A2, c2, hv, hNc, hr2, _⟩ := own_form ho2
      rw [← HNL.out] at hv hNc
      subst hv
      have HR2 := As.mk hr2
      have HC2 := As.mk (HC1.out.trans hc2 (fun _ _ e => e))
      clear ho2 hc2 hr2 HC1
      go_wp2_with fail
      refine (HRP.out A2 c2 _ hNc HR2.out).mono ?_
      rintro e w3 ⟨v3, rfl, ho3, hc3⟩
      obtain ⟨A3, c3, hv, _, hr3⟩ := ow_form ho3
      rw [← HTN.out] at hv
      subst hv
      have HR3 := As.mk hr3
      have HC3 := As.mk (HC2.out.trans hc3 (fun _ _ e => e))
      have HX3 := As.mk (HX.out.keep HC3.out)
      clear ho3 hc3 hr3 HC2 HR2
      go_upto_region 14 with fail
      obtain ⟨gp, hgp⟩ : ∃ gp, gp = w3.heap.size := ⟨_, rfl⟩
      simp only [← hgp]
      refine wp_worldP (fun w' => Blk w' gp 29 [.int .i64 21, .slice A3 n c3] ∧ Chg NoB w3 w') ?hs ?_
      case hs => exact ⟨by rw [hgp]; exact Blk.new w3 _ [.int .i64 21, .slice A3 n c3], (Chg.refl _ _).alloc _⟩
      intro wz hw
      have z0 := hw.1.cell 0
      have z1 := hw.1.cell 1
      simp only [List.getElem?_cons_zero, List.getElem?_cons_succ] at z0 z1
      have HC4 := As.mk (HC3.out.trans hw.2 (fun _ _ e => e))
      have HR4 := As.mk (HR3.out.keep hw.2)
      have HX4 := As.mk (HX3.out.keep hw.2)
      clear hw hgp
      have hnc : n ≤ c := by omega
      have hcut := cut_to (P := Tryd.prog) 23 5 Tryd.underlying23 size8 A l c n .i64 n (by omega) (by omega) (by omega)
      go_still_tail 23, (by kernel_rfl)
      change wpList _ _ _ _ _ (World.drew wz)
      go_wp2_with fail
      refine (same_any A3 n c3 (xs.take n) A n c (xs.take n) _ HTN.out HTN.out HR4.out.drew (HX4.out.take_ n).drew).mono ?_
      rintro e w4 ⟨rfl, k, rfl⟩
      have hd : decide (xs.take n = xs.take n) = true := by simp
      rw [hd]
      go_wp2_with fail
      go_ret
      exact ⟨rfl, (HC4.out.drewN _).below (Nat.le_refl _) (fun _ _ e => e)⟩
  · go_enter Tryd.func3, Tryd.ntmps3
    go_wp2
    all_goals go_ret
    all_goals exact ⟨rfl, Below.refl _ _⟩
end Go.Proofs.YtalbaapbiopamaaDoor
