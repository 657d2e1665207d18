/- The walk of FnNewMpi. -/
import Derived.Test.YtllcfihbepmphaaDoorNewMpi2
set_option linter.unusedVariables false
set_option linter.unusedSimpArgs false
namespace Go.Proofs.YtllcfihbepmphaaDoor
open Go.RowKit V
set_option maxRecDepth 100000 in
set_option maxHeartbeats 4000000 in
theorem fnNewMpi_walk (A : Option Addr) (c : Nat) (xs : List Int) (A' : Option Addr) (c' : Nat) (ms : List Int) (W : World) (a0 a1 : Addr) (hS : Sent W a0 a1) (hx : Rb W A xs) (hc : xs.length ≤ c) (hb : Byt xs) (hl : xs.length ≤ 140737488351232) (hx2 : Rb W A' ms) (hc2 : ms.length ≤ c') (hb2 : Byt ms) (hl2 : ms.length ≤ 140737488351232) :
    Calls Tryd.prog 8 #[.slice A xs.length c, .slice A' ms.length c'] W fun e W' => e = .returned (.bool true) ∧ Below W.heap.size W W' := by
  have HX := As.mk hx
  have HM := As.mk hx2
  have HS := As.mk hS
  obtain ⟨n, hn⟩ : ∃ n, n = xs.length := ⟨_, rfl⟩
  obtain ⟨m, hm⟩ : ∃ m, m = ms.length := ⟨_, rfl⟩
  rw [← hn] at hc ⊢
  rw [← hm] at hc2 ⊢
  have HN := As.mk hn
  have HMN := As.mk hm
  by_cases h1 : n ≤ 8191
  · by_cases h2 : m ≤ 1048576
    · have hsl := sig_length xs
      have hzb := sig_byt hb
      have hzz : (sig xs).length = 0 ∨ rd (sig xs) 0 ≠ 0 := by
        by_cases h : sig xs = []
        · exact Or.inl (by rw [h]; rfl)
        · exact Or.inr (sig_head h)
      have hbb := bitsN_bytes hzb hzz
      obtain ⟨zl, hzl⟩ : ∃ zl, zl = (sig xs).length := ⟨_, rfl⟩
      obtain ⟨t, ht⟩ : ∃ t, t = 2 + zl := ⟨_, rfl⟩
      have HNM := As.mk (fun w0 (h0 : Rb w0 A xs) => implNewMpi_any A n c xs w0 zl t hn h0 hb h1 hzl ht)
      have HSG := As.mk (fun w0 (h0 : Rb w0 A xs) => significant_any A n c xs w0 hn hc h0 (by omega))
      have HBT : As (∀ w0, Rb w0 A xs → Calls Tryd.prog 22 #[.slice A n c] w0 fun e w' => e = .returned (.int .i64 (bitsN (sig xs))) ∧ Chg NoB w0 w') := ⟨fun w0 h0 => (bits_any A n c xs w0 hn hc h0 hb (by omega)).mono fun e w' ⟨⟨k, he, hk⟩, hcc⟩ => ⟨by rw [he, bitsN_of hzb hk], hcc⟩⟩
      have HMP := As.mk (fun w0 (h0 : Rb w0 A xs) => specMPI_any A n c xs w0 hn hc h0 hb h1)
      obtain ⟨L, hL⟩ : ∃ L, L = mpiL (sig xs) := ⟨_, rfl⟩
      have hLl : L.length = t := by rw [hL]; unfold mpiL; simp; omega
      have hLb : Byt L := by
        rw [hL]
        unfold mpiL
        refine Byt.append (fun x hx => ?_) hzb
        simp at hx
        omega
      obtain ⟨N, hN⟩ : ∃ N, N = (L ++ ms).length := ⟨_, rfl⟩
      have hNv : N = t + m := by rw [hN, List.length_append, hLl, hm]
      have HRM : As (∀ (A5 : Option Addr) (c5 : Nat) w0, Sent w0 a0 a1 → N ≤ c5 → Rb w0 A5 (L ++ ms) → Calls Tryd.prog 23 #[.slice A5 N c5, .int .i64 0] w0 fun e w' => Chg NoB w0 w' ∧ ∃ (A1 : Option Addr) (c1 : Nat) (A2 : Option Addr) (c2 : Nat), e = .returned (.tuple #[.agg #[.slice A1 zl c1, .int .i64 (bitsN (sig xs)), .slice A2 t c2, .int .i64 t], .int .i64 t, .int .i64 0]) ∧ Rb w' A1 (sig xs) ∧ Rb w' A2 L) := ⟨fun A5 c5 w0 hS0 hc5 h5 => (readMpi_any A5 N c5 (L ++ ms) 0 w0 a0 a1 hS0 hN hc5 h5 (hLb.append hb2) (by omega)).mono fun e w' ⟨hcc, hmm⟩ => by
        refine ⟨hcc, ?_⟩
        have e0 : rd (L ++ ms) 0 = (bitsN (sig xs) : Int) / 256 := by rw [hL]; simp [mpiL, rd]
        have e1 : rd (L ++ ms) 1 = (bitsN (sig xs) : Int) % 256 := by rw [hL]; simp [mpiL, rd]
        rcases hmm with ⟨b', A1, c1, A2, c2, hv', hle', he2, h1, h2⟩ | ⟨hsh, _⟩
        · have hbb2 : b' = bitsN (sig xs) := by rw [e0, e1] at hv'; omega
          rw [hbb2, hbb.1, ← hzl, ← ht] at he2
          rw [hbb2, hbb.1, ← hzl] at h1
          rw [hbb2, hbb.1, ← hzl, ← ht] at h2
          have k1 : ((L ++ ms).drop 2).take zl = sig xs := by rw [hL, hzl]; simp [mpiL]
          have k2 : (L ++ ms).take t = L := by rw [← hLl]; simp
          rw [k1] at h1
          rw [k2] at h2
          exact ⟨A1, c1, A2, c2, he2, h1, h2⟩
        · exfalso
          rcases hsh with h | ⟨b', hv', h⟩
          · omega
          · have hbb2 : b' = bitsN (sig xs) := by rw [e0, e1] at hv'; omega
            rw [hbb2, hbb.1, ← hN] at h
            omega⟩
      rw [← hL] at HNM HMP
      have HL := As.mk hLl
      have HZL := As.mk hzl
      have HNL := As.mk hN
      have HNV := As.mk hNv
      have htl : t ≤ 8194 := by omega
      clear hx hx2 hS hn hm hb hb2 hl hl2 hsl hzb hzz hbb hzl ht hL hLl hLb hN hNv
      generalize sig xs = z at *
      generalize bitsN z = B at *
      go_enter Tryd.func8, Tryd.ntmps8
      go_wp2_with fail
      refine (HNM.out _ HX.out).mono ?_
      rintro e w1 ⟨⟨A1, c1, A2, c2v, rfl, hr1, hr2⟩, hc1⟩
      have HR1 := As.mk hr1
      have HR2 := As.mk hr2
      have HC1 := As.mk hc1
      clear hr1 hr2 hc1
      go_wp2_with fail
      obtain ⟨wz, hwz⟩ : ∃ wz, wz = w1.alloc (.cells #[.slice A1 zl c1, .int .i64 (B : Int), .slice A2 t c2v, .int .i64 (t : Int)] 54) := ⟨_, rfl⟩
      have HCZ : As (Chg NoB w1 wz) := ⟨by rw [hwz]; exact (Chg.refl NoB w1).alloc _⟩
      have hbz : Blk wz w1.heap.size 54 [.slice A1 zl c1, .int .i64 (B : Int), .slice A2 t c2v, .int .i64 (t : Int)] := by rw [hwz]; exact Blk.new w1 _ _
      rw [← hwz]
      have x0 := hbz.cell 0
      have x1 := hbz.cell 1
      have x2 := hbz.cell 2
      have x3 := hbz.cell 3
      simp only [List.getElem?_cons_zero, List.getElem?_cons_succ] at x0 x1 x2 x3
      generalize w1.heap.size = gz at x0 x1 x2 x3 hbz ⊢
      have BZ := As.mk hbz
      have HWC : As (Chg NoB W wz) := ⟨HC1.out.trans HCZ.out (fun _ _ e => e)⟩
      have K1 := As.mk (HR1.out.keep HCZ.out)
      have K2 := As.mk (HR2.out.keep HCZ.out)
      have HXZ := As.mk (HX.out.keep HWC.out)
      have HB : As (Chg NoB wz wz) := ⟨Chg.refl _ _⟩
      clear hwz hbz HCZ HR1 HR2 HC1 HNM
      go_region_law (first
        | (go_simp
           refine (HSG.out _ ?hx).mono ?_
           case hx => exact HXZ.out.keep (by repeat (first | exact HB.out | (with_reducible apply Chg.drew) | (with_reducible apply Chg.alloc)))
           rintro e29 w29 ⟨v29, rfl, ho29, hc29⟩
           obtain ⟨A29, c29, hv29, _, hr29⟩ := ow_form ho29
           rw [← HZL.out] at hv29
           subst hv29
           have HR29 := As.mk hr29
           clear ho29 hr29
           have HB29 : As (Chg NoB wz w29) := ⟨Chg.trans (by repeat (first | exact HB.out | (with_reducible apply Chg.drew) | (with_reducible apply Chg.alloc))) hc29 (fun _ _ e => e)⟩
           have b29 := BZ.out.chg HB29.out (fun e => e)
           have y0_29 := b29.cell 0
           have y1_29 := b29.cell 1
           have y2_29 := b29.cell 2
           have y3_29 := b29.cell 3
           simp only [List.getElem?_cons_zero, List.getElem?_cons_succ] at y0_29 y1_29 y2_29 y3_29
           clear HB hc29 b29
           have HB := HB29
           clear HB29)
        | (go_simp
           refine (HBT.out _ ?hx).mono ?_
           case hx => exact HXZ.out.keep (by repeat (first | exact HB.out | (with_reducible apply Chg.drew) | (with_reducible apply Chg.alloc)))
           rintro e31 w31 ⟨rfl, hc31⟩
           have HR29b := As.mk (HR29.out.keep (Chg.trans (S := NoB) (by repeat (first | exact Chg.refl _ _ | (with_reducible apply Chg.drew) | (with_reducible apply Chg.alloc))) hc31 (fun _ _ e => e)))
           clear HR29
           have HB31 : As (Chg NoB wz w31) := ⟨Chg.trans (by repeat (first | exact HB.out | (with_reducible apply Chg.drew) | (with_reducible apply Chg.alloc))) hc31 (fun _ _ e => e)⟩
           have b31 := BZ.out.chg HB31.out (fun e => e)
           have y0_31 := b31.cell 0
           have y1_31 := b31.cell 1
           have y2_31 := b31.cell 2
           have y3_31 := b31.cell 3
           simp only [List.getElem?_cons_zero, List.getElem?_cons_succ] at y0_31 y1_31 y2_31 y3_31
           clear HB hc31 b31
           have HB := HB31
           clear HB31)
        | (go_simp
           refine (HMP.out _ ?hx).mono ?_
           case hx => exact HXZ.out.keep (by repeat (first | exact HB.out | (with_reducible apply Chg.drew) | (with_reducible apply Chg.alloc)))
           rintro e33 w33 ⟨v33, rfl, ho33, hc33⟩
           obtain ⟨A33, c33, hv33, _, hr33⟩ := ow_form ho33
           rw [HL.out] at hv33
           subst hv33
           have HR33 := As.mk hr33
           have HR29c := As.mk (HR29b.out.keep (Chg.trans (S := NoB) (by repeat (first | exact Chg.refl _ _ | (with_reducible apply Chg.drew) | (with_reducible apply Chg.alloc))) hc33 (fun _ _ e => e)))
           clear HR29b ho33 hr33
           have HB33 : As (Chg NoB wz w33) := ⟨Chg.trans (by repeat (first | exact HB.out | (with_reducible apply Chg.drew) | (with_reducible apply Chg.alloc))) hc33 (fun _ _ e => e)⟩
           have b33 := BZ.out.chg HB33.out (fun e => e)
           have y0_33 := b33.cell 0
           have y1_33 := b33.cell 1
           have y2_33 := b33.cell 2
           have y3_33 := b33.cell 3
           simp only [List.getElem?_cons_zero, List.getElem?_cons_succ] at y0_33 y1_33 y2_33 y3_33
           clear HB hc33 b33
           have HB := HB33
           clear HB33)
        | (go_simp
           refine (isField_yes A1 c1 A2 c2v A29 c29 A33 c33 zl t B z L _ HZL.out HL.out.symm (K1.out.keep ?k1) (K2.out.keep ?k2) (HR29c.out.keep ?k3) (HR33.out.keep ?k4)).mono ?_
           case k1 => exact (by repeat (first | exact HB.out | (with_reducible apply Chg.drew) | (with_reducible apply Chg.alloc)))
           case k2 => exact (by repeat (first | exact HB.out | (with_reducible apply Chg.drew) | (with_reducible apply Chg.alloc)))
           case k3 => repeat (first | exact Chg.refl _ _ | (with_reducible apply Chg.drew) | (with_reducible apply Chg.alloc))
           case k4 => repeat (first | exact Chg.refl _ _ | (with_reducible apply Chg.drew) | (with_reducible apply Chg.alloc))
           rintro e34 w34 ⟨rfl, hc34⟩
           clear HR29c HR33
           have HB34 : As (Chg NoB wz w34) := ⟨Chg.trans (by repeat (first | exact HB.out | (with_reducible apply Chg.drew) | (with_reducible apply Chg.alloc))) hc34 (fun _ _ e => e)⟩
           have b34 := BZ.out.chg HB34.out (fun e => e)
           have y0_34 := b34.cell 0
           have y1_34 := b34.cell 1
           have y2_34 := b34.cell 2
           have y3_34 := b34.cell 3
           simp only [List.getElem?_cons_zero, List.getElem?_cons_succ] at y0_34 y1_34 y2_34 y3_34
           clear HB hc34 b34
           have HB := HB34
           clear HB34))
      all_goals
        have C34 : As (Chg NoB W w34) := ⟨HWC.out.trans HB.out (fun _ _ e => e)⟩
        have BZ34 := As.mk (BZ.out.chg HB.out (fun e => e))
        have K234 := As.mk (K2.out.keep HB.out)
        have K134 := As.mk (K1.out.keep HB.out)
        clear HB
        go_wp2_with fail
        refine (together_any w34.heap.size A2 t c2v A' m c' L ms _ (Blk.new w34 _ [.slice A2 t c2v, .slice A' m c']) HL.out.symm HMN.out (K234.out.alloc _) ((HM.out.keep C34.out).alloc _) (by omega) h2).mono ?_
        rintro e w35 ⟨v35, rfl, ho35, hc35⟩
        obtain ⟨A35, c35, hv35, hN35, hr35⟩ := ow_form ho35
        rw [← HNL.out] at hv35 hN35
        subst hv35
        have D35 : Chg NoB w34 w35 := ((Chg.refl NoB w34).alloc _).trans hc35 (fun _ _ e => e)
        have C35 := As.mk (C34.out.trans D35 (fun _ _ e => e))
        have BZ35 := As.mk (BZ34.out.chg D35 (fun e => e))
        have K235 := As.mk (K234.out.keep D35)
        have K135 := As.mk (K134.out.keep D35)
        have HR35 := As.mk hr35
        clear ho35 hc35 hr35 D35
        go_wp2_with fail
        refine (HRM.out A35 c35 _ (HS.out.keep C35.out) hN35 HR35.out).mono ?_
        rintro e w36 ⟨hc36, A6, c6, A7, c7, rfl, hr6, hr7⟩
        have C36 := As.mk (C35.out.trans hc36 (fun _ _ e => e))
        have K236 := As.mk (K235.out.keep hc36)
        have K136 := As.mk (K135.out.keep hc36)
        have HR6 := As.mk hr6
        have HR7 := As.mk hr7
        have bz := BZ35.out.chg hc36 (fun e => e)
        have q0 : ∀ o, (w36.alloc o).cell? ⟨gz, 0, none⟩ = some (.slice A1 zl c1) := fun o => (bz.alloc o).cell 0
        have q1 : ∀ o, (w36.alloc o).cell? ⟨gz, 1, none⟩ = some (.int .i64 (B : Int)) := fun o => (bz.alloc o).cell 1
        have q2 : ∀ o, (w36.alloc o).cell? ⟨gz, 2, none⟩ = some (.slice A2 t c2v) := fun o => (bz.alloc o).cell 2
        have q3 : ∀ o, (w36.alloc o).cell? ⟨gz, 3, none⟩ = some (.int .i64 (t : Int)) := fun o => (bz.alloc o).cell 3
        clear hc36 hr6 hr7 bz
        go_wp2_with fail
        refine (isField_yes A6 c6 A7 c7 A1 c1 A2 c2v zl t B z L _ HZL.out HL.out.symm (HR6.out.alloc _) (HR7.out.alloc _) (K136.out.alloc _) (K236.out.alloc _)).mono ?_
        rintro e w37 ⟨rfl, hc37⟩
        have C37 := As.mk ((C36.out.alloc _).trans hc37 (fun _ _ e => e))
        clear hc37
        go_wp2_with fail
        go_ret
        exact ⟨rfl, C37.out.below (Nat.le_refl _) (fun _ _ e => e)⟩
    · go_enter Tryd.func8, Tryd.ntmps8
      go_wp2
      all_goals go_ret
      all_goals exact ⟨rfl, Below.refl _ _⟩
  · go_enter Tryd.func8, Tryd.ntmps8
    go_wp2
    all_goals go_ret
    all_goals exact ⟨rfl, Below.refl _ _⟩
end Go.Proofs.YtllcfihbepmphaaDoor
