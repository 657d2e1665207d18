/- The walk of FnSetSalt. -/
import Derived.Test.YtllcfihbepmphaaDoorSetSalt
set_option linter.unusedVariables false
set_option linter.unusedSimpArgs false
namespace Go.Proofs.YtllcfihbepmphaaDoor
open Go.RowKit V
set_option maxRecDepth 100000 in
set_option maxHeartbeats 2000000 in
theorem fnSetSalt_walk (v h : Int) (A : Option Addr) (c : Nat) (xs : List Int) (W : World) (a0 a1 : Addr) (hS : Sent W a0 a1) (wv : (Lit.int .i64 v).wf = true) (wh : (Lit.int .u8 h).wf = true) (hx : Rb W A xs) (hc : xs.length ≤ c) (hb : Byt xs) (hl : xs.length ≤ 140737488351232) :
    Calls Tryd.prog 3 #[.int .i64 v, .int .u8 h, .slice A xs.length c] W fun e W' => e = .returned (.bool true) ∧ Below W.heap.size W W' := by
  have hh := wf_u8_byte wh
  have HX := As.mk hx
  have HS := As.mk hS
  have HH := As.mk (fun w => signHash_any h w hh.1 hh.2)
  obtain ⟨n, hn⟩ : ∃ n, n = xs.length := ⟨_, rfl⟩
  rw [← hn]
  have HN := As.mk hn
  clear hx hb hn hc hl hh wh hS wv
  by_cases h2 : n ≤ 1048576
  · go_enter Tryd.func3, Tryd.ntmps3
    go_wp2_with fail
    refine (HH.out _).mono ?_
    rintro e w1 ⟨⟨id, rfl, hid⟩, hc1⟩
    have HID := As.mk hid
    have HC1 := As.mk hc1
    have HNO := As.mk (show hashNo id = goHash id ∧ hashIs id = true by rcases hid with rfl | rfl | rfl | rfl | rfl | rfl <;> decide)
    have HHO := As.mk (fun w => hashOf_any id w (by rcases hid with rfl | rfl | rfl | rfl | rfl | rfl <;> decide))
    rw [HNO.out.1, HNO.out.2] at HHO
    have HSS := As.mk (fun w => saltSize_any id w hid)
    have hg : 0 ≤ goHash id ∧ goHash id ≤ 13 := by rcases hid with rfl | rfl | rfl | rfl | rfl | rfl <;> decide
    have hg0 := hg.1
    have hg1 := hg.2
    have hL : 16 ≤ saltLen id := by rcases hid with rfl | rfl | rfl | rfl | rfl | rfl <;> decide
    have HL := As.mk hL
    have H1 := As.mk (fun w (hn : ((n : Int) != saltLen id) = true) (hS : Sent w a0 a1) => setSalt_bad id A n c w hid hn a0 a1 hS)
    have H2 := As.mk (fun a w (hn : ((n : Int) != saltLen id) = false) (hx : Rb w (some a) xs) => setSalt_good id a n c xs w hid hn hx HN.out h2)
    clear hid hc1 HNO hg hL
    generalize goHash id = gh at *
    generalize saltLen id = L at *
    go_wp2_with fail
    refine (HHO.out _).mono ?_
    rintro e w2 ⟨rfl, hc2⟩
    have HC2 := As.mk (HC1.out.trans hc2 (fun _ _ e => e))
    clear hc2
    go_wp2_with fail
    by_cases hv : v = 6
    · subst hv
      by_cases hnl : (n : Int) = L
      · have hnb : ((n : Int) != L) = false := by simpa using hnl
        obtain ⟨a, ha, _⟩ := HX.out.at_ 0 (by omega) (by have := HN.out; have := HL.out; omega)
        subst ha
        have HX2 := As.mk (HX.out.keep HC2.out)
        clear hnl
        refine (H2.out a _ hnb HX2.out).mono ?_
        rintro e w3 ⟨u, rfl, ho3, hc3⟩
        obtain ⟨A3, c3, hu, _, hr3, _⟩ := own_form ho3
        rw [← HN.out] at hu
        subst hu
        have HR3 := As.mk hr3
        have HC3 := As.mk (HC2.out.trans hc3 (fun _ _ e => e))
        have HX3 := As.mk (HX.out.keep HC3.out)
        clear ho3 hc3 hr3
        go_wp2_with fail
        refine (HSS.out _).mono ?_
        rintro e w4 ⟨rfl, rfl⟩
        go_wp2_with fail
        refine (same_yes A3 n c3 xs (some a) n c _ HN.out HN.out HR3.out HX3.out).mono ?_
        rintro e w5 ⟨rfl, k, rfl⟩
        go_wp2_with fail
        go_ret
        exact ⟨rfl, (HC3.out.drewN k).below (Nat.le_refl _) (fun _ _ e => e)⟩
      · have hnb : ((n : Int) != L) = true := by simpa using hnl
        clear hnl
        refine (H1.out _ hnb (HS.out.keep HC2.out)).mono ?_
        rintro e w3 ⟨u, rfl, ho3, hc3⟩
        obtain ⟨A3, c3, rfl, _, hr3, _⟩ := own_form ho3
        have HC3 := As.mk (HC2.out.trans hc3 (fun _ _ e => e))
        clear ho3 hc3 hr3
        go_wp2_with fail
        refine (HSS.out _).mono ?_
        rintro e w4 ⟨rfl, rfl⟩
        go_wp2_with fail
        go_ret
        exact ⟨rfl, HC3.out.below (Nat.le_refl _) (fun _ _ e => e)⟩
    · have hvb : (v == 6) = false := by simpa using hv
      have hvb2 : (v != 6) = true := by simpa using hv
      clear hv
      refine (setSalt_other v gh A n c _ hvb hg0 hg1).mono ?_
      rintro e w3 ⟨u, rfl, ho3, hc3⟩
      obtain ⟨A3, c3, rfl, _, hr3, _⟩ := own_form ho3
      have HC3 := As.mk (HC2.out.trans hc3 (fun _ _ e => e))
      clear ho3 hc3 hr3
      go_wp2_with fail
      go_ret
      exact ⟨rfl, HC3.out.below (Nat.le_refl _) (fun _ _ e => e)⟩
  · go_enter Tryd.func3, Tryd.ntmps3
    go_wp2
    all_goals go_ret
    all_goals exact ⟨rfl, Below.refl _ _⟩
end Go.Proofs.YtllcfihbepmphaaDoor
