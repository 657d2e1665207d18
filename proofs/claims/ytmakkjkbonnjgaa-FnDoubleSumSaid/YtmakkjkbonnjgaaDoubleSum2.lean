/- The walk of FnDoubleSum: twice a sum of two elements of the field of 2^128 is the sum of both, doubled. -/
import Derived.Test.YtmakkjkbonnjgaaDoubleSum
set_option linter.unusedVariables false
set_option linter.unusedSimpArgs false
namespace Go.Proofs.Ytmakkjkbonnjgaa
open Go.RowKit V

theorem xored_any (A0 : Option Addr) (n0 c0 : Nat) (xs : List Int) (A1 : Option Addr) (n1 c1 : Nat) (ys : List Int) (w : World) (hn0 : n0 = xs.length) (hn1 : n1 = ys.length) (hx : Rb w A0 xs) (hc0 : xs.length ≤ c0) (hy : Rb w A1 ys) (hc1 : ys.length ≤ c1) (hl : xs.length ≤ 140737488355327) :
    Calls Try.prog 22 #[.slice A0 n0 c0, .slice A1 n1 c1] w (Gives NoB w (xorL xs ys)) := by
  subst hn0
  subst hn1
  exact (PFnDoubleSum.spec_Xored.calls _ A0 c0 xs A1 c1 ys _ w (rk_C hx) hc0 (rk_C hy) hc1 (V.xored_f xs ys hl)).mono fun e w' h => gives_of h
theorem shl_any (A0 : Option Addr) (n0 c0 : Nat) (xs : List Int) (w : World) (hn0 : n0 = xs.length) (hx : Rb w A0 xs) (hc0 : xs.length ≤ c0) (h0 : 0 < xs.length) (hl : xs.length ≤ 140737488355327) :
    Calls Try.prog 58 #[.slice A0 n0 c0] w (Gives NoB w (shl1 xs)) := by
  subst hn0
  exact (PFnDoubleSum.byteutil_ShiftBytesLeft.calls _ A0 c0 xs _ w (rk_C hx) hc0 (V.shl_f xs hl h0)).mono fun e w' h => gives_of h

set_option maxRecDepth 100000 in
set_option maxHeartbeats 400000 in
theorem gfnDouble_any (A0 : Option Addr) (n0 c0 : Nat) (xs : List Int) (w : World) (hn0 : n0 = xs.length) (h16 : xs.length = 16) (hx : Rb w A0 xs) (hc0 : xs.length ≤ c0) :
    Calls Try.prog 41 #[.slice A0 n0 c0] w (Gives NoB w (dbl xs)) := by
  have hne : (((n0 : Int)) != 16) = false := by rw [hn0, h16]; rfl
  have H16 := As.mk h16
  have HN := As.mk hn0
  clear hn0 h16
  go_enter Try.func41, Try.ntmps41
  go_wp2_with fail
  refine (shl_any _ _ _ xs _ HN.out hx hc0 (by have := H16.out; omega) (by have := H16.out; omega)).mono ?_
  rintro e w1 ⟨v1, rfl, ho, hc⟩
  have hsl : (shl1 xs).length = 16 := (tab_length _ _).trans H16.out
  obtain ⟨g, c, rfl, hgc, hgb, hgl⟩ := own_form_pos ho (by omega)
  obtain ⟨hs1, hs2⟩ := own_at ho 15 (by omega)
  rw [show ((15 : Nat) : Int) = 15 from rfl] at hs1
  obtain ⟨a0, rfl, hc0'⟩ := (hx.keep hc).at_ 0 (by omega) (by have := H16.out; omega)
  simp only [Int.toNat_zero, Addr.add, if_true] at hc0'
  have hn1 : 15 < (shl1 xs).length := by omega
  have hn2 : 0 < n0 := by have := HN.out; have := H16.out; omega
  have hn3 : (15 : Int) < ((shl1 xs).length : Int) := by omega
  have hn4 : (0 : Int) < (n0 : Int) := by omega
  have HS := As.mk hsl
  clear hsl
  go_wp2
  go_still_tail 10, (by kernel_rfl)
  change wpList _ _ _ _ _ (World.drew w1)
  go_wp2
  go_ret
  exact ⟨_, rfl, own_set ho 15 _, (hc.setCell (p := ⟨g, 15, none⟩) _ (fun h => by exfalso; have : g < w.heap.size := h; omega)).drew⟩

/-- What impl.Double hands back: the bytes, and true. -/
def GivesOk (S : Nat → Prop) (w : World) (xs : List Int) (e : Ending) (w' : World) : Prop :=
  ∃ v, e = .returned (.tuple #[v, .bool true]) ∧ Own w' w.heap.size 5 .u8 v xs ∧ Chg S w w'

set_option maxHeartbeats 400000 in
theorem double_any (A0 : Option Addr) (n0 c0 : Nat) (xs : List Int) (w : World) (hn0 : n0 = xs.length) (h16 : xs.length = 16) (hx : Rb w A0 xs) (hc0 : xs.length ≤ c0) :
    Calls Try.prog 21 #[.slice A0 n0 c0] w (GivesOk NoB w (dbl xs)) := by
  have hne : (((n0 : Int)) != 16) = false := by rw [hn0, h16]; rfl
  have H16 := As.mk h16
  have HN := As.mk hn0
  clear hn0 h16
  go_enter Try.func21, Try.ntmps21
  go_wp2_with fail
  refine (gfnDouble_any _ _ _ xs _ HN.out H16.out hx hc0).mono ?_
  rintro e w1 ⟨v1, rfl, ho, hc⟩
  go_wp2
  go_ret2
  exact ⟨v1, rfl, ho, hc⟩

set_option maxHeartbeats 1000000 in
theorem fnDoubleSum_walk (A0 : Option Addr) (c0 : Nat) (xs : List Int) (A1 : Option Addr) (c1 : Nat) (ys : List Int) (W : World) (hx : Rb W A0 xs) (hc0 : xs.length ≤ c0) (hb0 : Byt xs) (hl0 : xs.length ≤ 140737488351232) (hy : Rb W A1 ys) (hc1 : ys.length ≤ c1) (hb1 : Byt ys) (hl1 : ys.length ≤ 140737488351232) :
    Calls Try.prog 7 #[.slice A0 xs.length c0, .slice A1 ys.length c1] W fun e W' => e = .returned (.bool true) ∧ Below W.heap.size W W' := by
  have HX := As.mk hx
  have HY := As.mk hy
  have HB0 := As.mk hb0
  have HB1 := As.mk hb1
  clear hx hy hb0 hb1
  by_cases h16 : xs.length = 16 ∧ ys.length = 16
  · obtain ⟨l0, l1⟩ := h16
    have e0 : (((xs.length : Int)) != 16) = false := by rw [l0]; rfl
    have e1 : (((ys.length : Int)) != 16) = false := by rw [l1]; rfl
    have e2 : (((dbl xs).length : Int) == 16) = true := by rw [dbl_length xs l0]; rfl
    have hle0 : xs.length ≤ 16 := by omega
    have hle1 : ys.length ≤ 16 := by omega
    have L0 := As.mk l0
    have L1 := As.mk l1
    clear l0 l1
    go_enter Try.func7, Try.ntmps7
    go_wp2_with (at_builtin; refine wpList_append_rk rfl _ _ 22 rfl 5 .u8 1 Try.underlying22 info8 (by decide) _ W.heap.size [] xs A0 c0 rfl rfl (own_lit W _ 5 .u8 [] (Nat.le_refl _) (by simp [maxLen])) (HX.out.alloc _) (by simp) (by simp; omega) ?_; intro u1 w1 ho1 hg1 _; obtain ⟨A2, c2, rfl, hlc2, hr2, _⟩ := own_form ho1)
    rw [List.nil_append] at hr2 hlc2
    have k1 : Chg NoB W w1 := ((Chg.refl NoB W).alloc _).grown hg1 (fun k hk e => by have e2 : W.heap.size = k := Option.some.inj e; omega)
    refine (double_any A2 _ c2 xs _ rfl L0.out hr2 hlc2).mono ?_
    rintro e w2 ⟨va, rfl, hoa, k2⟩
    have hya := HY.out.keep (k1.trans k2 (fun _ _ e => e))
    go_wp2_with (at_builtin; refine wpList_append_rk rfl _ _ 22 rfl 5 .u8 1 Try.underlying22 info8 (by decide) _ w2.heap.size [] ys A1 c1 rfl rfl (own_lit w2 _ 5 .u8 [] (Nat.le_refl _) (by simp [maxLen])) (hya.alloc _) (by simp) (by simp; omega) ?_; intro u3 w3 ho3 hg3 _; obtain ⟨A3, c3, rfl, hlc3, hr3, _⟩ := own_form ho3)
    rw [List.nil_append] at hr3 hlc3
    have k3 : Chg NoB w2 w3 := ((Chg.refl NoB w2).alloc _).grown hg3 (fun k hk e => by have e2 : w2.heap.size = k := Option.some.inj e; omega)
    refine (double_any A3 _ c3 ys _ rfl L1.out hr3 hlc3).mono ?_
    rintro e w4 ⟨vb, rfl, hob, k4⟩
    have k14 : Chg NoB W w4 := ((k1.trans k2 (fun _ _ e => e)).trans k3 (fun _ _ e => e)).trans k4 (fun _ _ e => e)
    go_wp2_with fail
    refine (xored_any A0 _ c0 xs A1 _ c1 ys _ rfl rfl (HX.out.keep k14) hc0 (HY.out.keep k14) hc1 (by omega)).mono ?_
    rintro e w5 ⟨vx, rfl, hox, k5⟩
    obtain ⟨A5, c5, rfl, hlc5, hr5, _⟩ := own_form hox
    go_wp2_with fail
    refine (double_any A5 _ c5 (xorL xs ys) _ rfl (by rw [xorL_length]; exact L0.out) hr5 hlc5).mono ?_
    rintro e w6 ⟨vc, rfl, hoc, k6⟩
    have k26 : Chg NoB w2 w6 := ((k3.trans k4 (fun _ _ e => e)).trans k5 (fun _ _ e => e)).trans k6 (fun _ _ e => e)
    have k46 : Chg NoB w4 w6 := k5.trans k6 (fun _ _ e => e)
    have hoa6 := own_keep hoa k26
    have hob6 := own_keep hob k46
    obtain ⟨Aa, ca, rfl, hlca, hra, _⟩ := own_form hoa6
    obtain ⟨Ab, cb, rfl, hlcb, hrb, _⟩ := own_form hob6
    obtain ⟨Ac, cc, rfl, hlcc, hrc, _⟩ := own_form hoc
    clear hoa hob hoc hoa6 hob6
    go_wp2_with fail
    refine (xored_any Aa _ ca (dbl xs) Ab _ cb (dbl ys) _ rfl rfl hra hlca hrb hlcb (by have := dbl_length xs L0.out; omega)).mono ?_
    rintro e w7 ⟨vd, rfl, hod, k7⟩
    obtain ⟨Ad, cd, rfl, hlcd, hrd, _⟩ := own_form hod
    go_wp2_with fail
    refine (same_yes Ac _ cc _ Ad _ cd _ rfl (by rw [dbl_sum xs ys HB0.out HB1.out L0.out L1.out]) (hrc.keep k7) (by rw [dbl_sum xs ys HB0.out HB1.out L0.out L1.out]; exact hrd)).mono ?_
    rintro e w8 ⟨rfl, n8, rfl⟩
    go_wp2
    go_ret
    exact ⟨rfl, (((k14.trans k46 (fun _ _ e => e)).trans k7 (fun _ _ e => e)).drewN n8).below (Nat.le_refl _) (fun _ _ e => e)⟩
  · go_enter Try.func7, Try.ntmps7
    go_wp2
    all_goals go_ret
    all_goals exact ⟨rfl, Below.refl _ _⟩
end Go.Proofs.Ytmakkjkbonnjgaa
