/- The walk of FnWriteOpaque. -/
import Derived.Test.YtllcfihbepmphaaOpq2
set_option linter.unusedVariables false
set_option linter.unusedSimpArgs false
namespace Go.Proofs.Ytllcfihbepmphaa
open Go.RowKit V
set_option maxRecDepth 100000 in
set_option maxHeartbeats 1000000 in
theorem fnWriteOpaque_walk (t : Int) (A : Option Addr) (c : Nat) (xs : List Int) (W : World) (wt : (Lit.int .u8 t).wf = true) (hx : Rb W A xs) (hc : xs.length ≤ c) (hb : Byt xs) (hl : xs.length ≤ 140737488351232) :
    Calls Try.prog 8 #[.int .u8 t, .slice A xs.length c] W fun e W' => e = .returned (.bool true) ∧ Below W.heap.size W W' := by
  have ht := wf_u8_byte wt
  have h0 : 0 ≤ t % 64 := by omega
  have h1 : t % 64 < 64 := by omega
  have hand := and63 ht.1 ht.2
  obtain ⟨z, hz⟩ : ∃ z, t % 64 = z := ⟨_, rfl⟩
  rw [hz] at h0 h1 hand
  have HX := As.mk hx
  have HB := As.mk hb
  obtain ⟨n, hn⟩ : ∃ n, n = xs.length := ⟨_, rfl⟩
  rw [← hn]
  rw [← hn] at hl
  have HN := As.mk hn
  clear wt ht hz hx hb hn hc
  by_cases h2 : n ≤ 1048576
  · have HRL := As.mk (rlen_lenL n xs (by omega))
    have HLL := As.mk (lenL_length n)
    have HBL := As.mk (lenL_byt n)
    have HWO : As (∀ A1 c1 w, Rb w A1 xs → Calls Try.prog 18 #[.agg #[.int .u8 z, .slice A1 n c1]] w fun e w' => ∃ v, e = .returned v ∧ Ow w' (w.heap.size + 3) 5 .u8 v ([192 + z] ++ (lenL n ++ xs)) ∧ Chg NoB w w') :=
      ⟨fun A1 c1 w hr => by have := writeOpaque_any n c1 z A1 xs w HN.out hr h2 h0 h1; rwa [List.append_assoc] at this⟩
    generalize lenL n = L0 at HRL HLL HBL HWO
    obtain ⟨L, hL⟩ : ∃ L, L = [192 + z] ++ (L0 ++ xs) := ⟨_, rfl⟩
    rw [← hL] at HWO
    obtain ⟨N, hN⟩ : ∃ N, N = L.length := ⟨_, rfl⟩
    have hN2 : N = 1 + L0.length + n := by rw [hN, hL, HN.out]; simp; omega
    have hLL := HLL.out
    have HRP : As (∀ A1 c1 w, N ≤ c1 → Rb w A1 L → Calls Try.prog 19 #[.slice A1 N c1] w fun e w' => ∃ v, e = .returned (.tuple #[.agg #[.int .i64 z, v], .int .i64 N, .int .i64 0]) ∧ Ow w' w.heap.size 5 .u8 v xs ∧ Chg NoB w w') :=
      ⟨fun A1 c1 w hc1 hr1 => by
        have hB : Byt L := by
          rw [hL]
          exact Byt.append (fun x hx => by simp at hx; omega) (Byt.append HBL.out HB.out)
        have h := readPacket_new A1 N c1 L w n L0.length (1 + L0.length) N z hN hc1 hr1 hB (by omega) h0 (by rw [hL]; simp [rd]) (by rw [hL]; exact HRL.out) rfl hLL (by omega) hN2 (Nat.le_refl _) (by omega)
        have e : (L.drop (1 + L0.length)).take n = xs := by
          rw [hL, HN.out, Nat.add_comm 1]
          simp
        rw [e] at h
        exact h⟩
    have HNL := As.mk hN
    clear hL hN hN2 HRL HLL HBL hLL
    go_enter Try.func8, Try.ntmps8
    go_wp2_with (at_builtin; refine wpList_append_e rfl _ _ 22 rfl 5 .u8 1 Try.underlying22 info8 (by decide) _ W.heap.size xs A n c rfl rfl HN.out ?hr ?hb (by have := HN.out; omega) ?_; (case hr => (first | exact HX.out.alloc _ | exact HX.out)); (case hb => (first | exact Nat.le_refl _ | simp)); intro v1 w1 ho1 hc1; obtain ⟨A1, c1, hv, _, hr1⟩ := ow_form ho1; rw [← HN.out] at hv; subst hv; have HR1 := As.mk hr1; have HC1 : As (Chg NoB W w1) := ⟨(by first | exact hc1 | exact ((Chg.refl NoB W).alloc _).trans hc1 (fun _ _ e => e))⟩; clear ho1 hc1 hr1)
    refine (HWO.out A1 c1 _ HR1.out).mono ?_
    rintro e w2 ⟨v2, rfl, ho2, hc2⟩
    obtain ⟨A2, c2, hv, hNc, hr2⟩ := ow_form ho2
    rw [← HNL.out] at hv hNc
    subst hv
    have HR2 := As.mk hr2
    have HC2 := As.mk (HC1.out.trans hc2 (fun _ _ e => e))
    clear ho2 hc2 hr2 HC1 HR1
    go_wp2_with fail
    refine (HRP.out A2 c2 _ hNc HR2.out).mono ?_
    rintro e w3 ⟨v3, rfl, ho3, hc3⟩
    obtain ⟨A3, c3, hv, _, hr3⟩ := ow_form ho3
    rw [← HN.out] at hv
    subst hv
    have HR3 := As.mk hr3
    have HC3 := As.mk (HC2.out.trans hc3 (fun _ _ e => e))
    have HX3 := As.mk (HX.out.keep HC3.out)
    clear ho3 hc3 hr3 HC2 HR2
    go_wp2_with fail
    refine (same_yes A3 n c3 xs A n c _ HN.out HN.out (HR3.out.alloc _) (HX3.out.alloc _)).mono ?_
    rintro e w4 ⟨rfl, k, rfl⟩
    go_wp2_with fail
    go_ret
    exact ⟨rfl, ((HC3.out.alloc _).drewN k).below (Nat.le_refl _) (fun _ _ e => e)⟩
  · go_enter Try.func8, Try.ntmps8
    go_wp2
    all_goals go_ret
    all_goals exact ⟨rfl, Below.refl _ _⟩
end Go.Proofs.Ytllcfihbepmphaa
