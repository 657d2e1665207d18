/- The walk of FnReadMpi. -/
import Derived.Test.YtllcfihbepmphaaDoorReadMpi
import Derived.Test.YtllcfihbepmphaaDoorSpecMpi
import Derived.Test.YtllcfihbepmphaaDoorBits
set_option linter.unusedVariables false
set_option linter.unusedSimpArgs false
namespace Go.Proofs.YtllcfihbepmphaaDoor
open Go.RowKit V
set_option maxRecDepth 100000 in
set_option maxHeartbeats 2000000 in
theorem fnReadMpi_walk (A : Option Addr) (c : Nat) (xs : List Int) (sp : Int) (W : World) (a0 a1 : Addr) (hS : Sent W a0 a1) (hx : Rb W A xs) (hc : xs.length ≤ c) (hb : Byt xs) (hl : xs.length ≤ 140737488351232) (wf : (Lit.int .i64 sp).wf = true) :
    Calls Tryd.prog 6 #[.slice A xs.length c, .int .i64 sp] W fun e W' => e = .returned (.bool true) ∧ Below W.heap.size W W' := by
  have HX := As.mk hx
  have HS := As.mk hS
  have HB := As.mk hb
  obtain ⟨n, hn⟩ : ∃ n, n = xs.length := ⟨_, rfl⟩
  rw [← hn] at hc ⊢
  have HN := As.mk hn
  clear hx hb hn hl hS wf
  by_cases h2 : n ≤ 1048576
  · have HSP := As.mk (fun w (h : Rb w A xs) => specMpi_any A n c xs w HN.out hc h HB.out h2)
    have HRM := As.mk (fun w (hS : Sent w a0 a1) (h : Rb w A xs) => readMpi_any A n c xs sp w a0 a1 hS HN.out hc h HB.out h2)
    go_enter Tryd.func6, Tryd.ntmps6
    go_wp2_with fail
    refine (HSP.out _ HX.out).mono ?_
    rintro e w1 ⟨hc1, hm⟩
    have HC1 := As.mk hc1
    rcases hm with ⟨b, v, hv, hle, he, how⟩ | ⟨hsh, rfl⟩
    · obtain ⟨A2, c2, hvs, hc2v, hr2⟩ := ow_form how
      obtain ⟨ys, hys⟩ : ∃ ys, ys = (xs.drop 2).take (nBytes b) := ⟨_, rfl⟩
      have hylen : ys.length = nBytes b := by rw [hys, List.length_take, List.length_drop]; omega
      rw [← hys] at hvs hr2 hc2v
      rw [hylen] at hvs hc2v
      have h0 := HB.out.rd 0
      have h1 := HB.out.rd 1
      have hb16 : b ≤ 65535 := by omega
      have hnb2 : nBytes b ≤ 8192 := by unfold nBytes; omega
      obtain ⟨t, ht⟩ : ∃ t, t = 2 + nBytes b := ⟨_, rfl⟩
      have htn : t ≤ n := by rw [ht, HN.out]; exact hle
      have htl : t ≤ 8194 := by omega
      obtain ⟨nb, hnb⟩ : ∃ nb, nb = nBytes b := ⟨_, rfl⟩
      rw [← ht] at he
      rw [← hnb] at hvs hylen hnb2 hc2v
      have HRM2 : As (∀ w, Sent w a0 a1 → Rb w A xs → Calls Tryd.prog 23 #[.slice A n c, .int .i64 sp] w fun e w' => Chg NoB w w' ∧ ∃ (A1 : Option Addr) (c1 : Nat) (A2 : Option Addr) (c2 : Nat), e = .returned (.tuple #[.agg #[.slice A1 nb c1, .int .i64 b, .slice A2 t c2, .int .i64 t], .int .i64 t, .int .i64 0]) ∧ Rb w' A1 ys ∧ Rb w' A2 (xs.take t)) := ⟨fun w hS h => (HRM.out w hS h).mono fun e w' ⟨hc, hm⟩ => by
        refine ⟨hc, ?_⟩
        rcases hm with ⟨b', A1, c1, A2, c2, hv', hle', he2, h1, h2⟩ | ⟨hsh, _⟩
        · have hbb : b' = b := by omega
          rw [hbb, ← ht, ← hnb] at he2
          rw [hbb, ← hys] at h1
          rw [hbb, ← ht] at h2
          exact ⟨A1, c1, A2, c2, he2, h1, h2⟩
        · exfalso
          rcases hsh with h | ⟨b', hv', h⟩
          · omega
          · obtain rfl : b' = b := by omega
            omega⟩
      have HBT := As.mk (fun w (h : Rb w A2 ys) => bits_any A2 nb c2 ys w hylen.symm hc2v h (by rw [hys]; exact (HB.out.drop 2).take _) (by omega))
      have hcut := cut_to (P := Tryd.prog) 22 5 Tryd.underlying22 size8 A n c t .i64 t rfl (by omega)
      have HR2 := As.mk hr2
      have HYL := As.mk hylen
      have HTL : As (t = (xs.take t).length) := ⟨by rw [List.length_take]; have := HN.out; omega⟩
      subst he
      subst hvs
      clear hv hle how hr2 hys hylen h0 h1 ht hnb hc1
      go_wp2_with fail
      refine (HBT.out _ HR2.out).mono ?_
      rintro e w2 ⟨⟨m, rfl, _⟩, hc2⟩
      have HC2 := As.mk (HC1.out.trans hc2 (fun _ _ e => e))
      have HR2' := As.mk (HR2.out.keep hc2)
      clear hc2
      by_cases hbm : (b : Int) = m
      · subst hbm
        go_wp2_with fail
        refine (HRM2.out _ (HS.out.keep HC2.out) (HX.out.keep HC2.out)).mono ?_
        rintro e w3 ⟨hc3, A3, c3, A4, c4, rfl, hr3, hr4⟩
        have HC3 := As.mk (HC2.out.trans hc3 (fun _ _ e => e))
        have HR3 := As.mk hr3
        have HR4 := As.mk hr4
        have HR5 := As.mk (HR2'.out.keep hc3)
        have HX3 := As.mk ((HX.out.keep HC3.out).take_ t)
        clear hc3 hr3 hr4
        go_wp2_with fail
        obtain ⟨wz, hwz⟩ : ∃ wz, wz = w3.alloc (.cells #[.slice A3 nb c3, .int .i64 (b : Int), .slice A4 t c4, .int .i64 (t : Int)] 54) := ⟨_, rfl⟩
        have HCZ : As (Chg NoB w3 wz) := ⟨by rw [hwz]; exact (Chg.refl NoB w3).alloc _⟩
        have hbz : Blk wz w3.heap.size 54 [.slice A3 nb c3, .int .i64 (b : Int), .slice A4 t c4, .int .i64 (t : Int)] := by rw [hwz]; exact Blk.new w3 _ _
        rw [← hwz]
        have x0 := hbz.cell 0
        have x1 := hbz.cell 1
        have x2 := hbz.cell 2
        have x3 := hbz.cell 3
        simp only [List.getElem?_cons_zero, List.getElem?_cons_succ] at x0 x1 x2 x3
        generalize w3.heap.size = gz at x0 x1 x2 x3 ⊢
        have HWC : As (Chg NoB W wz) := ⟨HC3.out.trans HCZ.out (fun _ _ e => e)⟩
        have K1 := As.mk (HR3.out.keep HCZ.out)
        have K2 := As.mk (HR4.out.keep HCZ.out)
        have K3 := As.mk (HR5.out.keep HCZ.out)
        have K4 := As.mk (HX3.out.keep HCZ.out)
        clear hwz hbz HCZ HR3 HR4 HR5 HX3 HC3 HRM2 HBT HR2 HR2' HC2 HC1 HRM HSP
        go_still_tail 14, (by kernel_rfl)
        change wpList _ _ _ _ _ (World.drew wz)
        go_wp2_with fail
        refine (isField_yes A3 c3 A4 c4 A2 c2 A c nb t b ys (xs.take t) _ HYL.out.symm HTL.out K1.out.drew K2.out.drew K3.out.drew K4.out.drew).mono ?_
        rintro e w4 ⟨rfl, hc4⟩
        have HC4 : As (Chg NoB W w4) := ⟨HWC.out.drew.trans hc4 (fun _ _ e => e)⟩
        clear hc4
        go_wp2_with fail
        go_ret
        exact ⟨rfl, HC4.out.below (Nat.le_refl _) (fun _ _ e => e)⟩
      · have hbmb : ((b : Int) != m) = true := by simpa using hbm
        clear hbm
        go_wp2_with fail
        go_ret
        exact ⟨rfl, HC2.out.below (Nat.le_refl _) (fun _ _ e => e)⟩
    · have HRM2 : As (∀ w, Sent w a0 a1 → Rb w A xs → Calls Tryd.prog 23 #[.slice A n c, .int .i64 sp] w fun e w' => Chg NoB w w' ∧ ∃ k : Int, e = .returned (.tuple #[.agg #[.slice none 0 0, .int .i64 0, .slice none 0 0, .int .i64 0], .int .i64 k, .int .i64 2])) := ⟨fun w hS h => (HRM.out w hS h).mono fun e w' ⟨hc, hm⟩ => by
        refine ⟨hc, ?_⟩
        rcases hm with ⟨b', A1, c1, A2, c2, hv', hle', he, h1, h2⟩ | ⟨_, k, he⟩
        · exfalso
          rcases hsh with h | ⟨b2, hv2, h⟩
          · omega
          · obtain rfl : b' = b2 := by omega
            omega
        · exact ⟨k, he⟩⟩
      clear hsh hc1
      go_wp2_with fail
      refine (HRM2.out _ (HS.out.keep HC1.out) (HX.out.keep HC1.out)).mono ?_
      rintro e w3 ⟨hc3, k, rfl⟩
      have HC3 := As.mk (HC1.out.trans hc3 (fun _ _ e => e))
      clear hc3
      go_wp2_with fail
      go_ret
      exact ⟨rfl, (HC3.out.alloc _).below (Nat.le_refl _) (fun _ _ e => e)⟩
  · go_enter Tryd.func6, Tryd.ntmps6
    go_wp2
    all_goals go_ret
    all_goals exact ⟨rfl, Below.refl _ _⟩
end Go.Proofs.YtllcfihbepmphaaDoor
