/- The contract of spec.OID; the walk of FnNewOid. -/
import Derived.Test.YtllcfihbepmphaaDoorNewOid
import Derived.Test.YtllcfihbepmphaaDoorReadOid
import Derived.Test.YtllcfihbepmphaaDoorSpecMpi
import Derived.Deep.RegionHeld3
set_option linter.unusedVariables false
set_option linter.unusedSimpArgs false
namespace Go.Proofs.YtllcfihbepmphaaDoor
open Go.RowKit V
set_option maxRecDepth 100000 in
set_option maxHeartbeats 1000000 in
theorem specOID_any (A : Option Addr) (n c : Nat) (xs : List Int) (w : World) (hn : n = xs.length) (hx : Rb w A xs) (hl : n ≤ 254) :
    Calls Tryd.prog 27 #[.slice A n c] w fun e w' => ∃ v, e = .returned v ∧ Ow w' w.heap.size 5 .u8 v ([(n : Int)] ++ xs) ∧ Chg NoB w w' := by
  have HX := As.mk hx
  have HN := As.mk hn
  have hw1 : IntKind.u8.wrap (n : Int) = (n : Int) := by simp [IntKind.wrap, IntKind.bits, IntKind.signed]; omega
  clear hx hn
  go_enter Tryd.func27, Tryd.ntmps27
  go_wp2_with (at_builtin; refine wpList_append_ow rfl _ _ 22 rfl 5 .u8 1 Tryd.underlying22 info8 (by decide) (.slice (some ⟨w.heap.size, 0, none⟩) 1 1) w.heap.size [(n : Int)] xs A n c ?hs rfl HN.out (ow_of (own_lit w w.heap.size 5 .u8 [(n : Int)] (Nat.le_refl _) (by simp [maxLen]))) (HX.out.alloc _) (by simp) (by have := HN.out; simp; omega) ?_; (case hs => rfl); intro v2 w2 ho2 hc2)
  go_ret
  exact ⟨v2, rfl, ho2, Chg.over ((Chg.refl NoB w).alloc _) hc2 (Nat.le_refl _)⟩
set_option maxRecDepth 100000 in
set_option maxHeartbeats 4000000 in
theorem fnNewOid_walk (A : Option Addr) (c : Nat) (xs : List Int) (W : World) (a0 a1 : Addr) (hS : Sent W a0 a1) (hx : Rb W A xs) (hc : xs.length ≤ c) (hb : Byt xs) (hl : xs.length ≤ 140737488351232) :
    Calls Tryd.prog 7 #[.slice A xs.length c] W fun e W' => e = .returned (.bool true) ∧ Below W.heap.size W W' := by
  have HX := As.mk hx
  have HS := As.mk hS
  obtain ⟨n, hn⟩ : ∃ n, n = xs.length := ⟨_, rfl⟩
  rw [← hn] at hc ⊢
  have HN := As.mk hn
  by_cases h2 : n ≤ 1048576
  · by_cases hbad : n = 0 ∨ 254 < n
    · have HNO := As.mk (fun w0 (h0 : Rb w0 A xs) => newOid_bad A n c xs w0 hn h0 h2 hbad)
      have hgd : decide ((n : Int) < 1) = true ∨ (decide ((n : Int) < 1) = false ∧ decide (254 < (n : Int)) = true) := by
        by_cases h : n = 0
        · exact .inl (by simp; omega)
        · exact .inr ⟨by simp; omega, by simp; omega⟩
      clear hx hS hn hb hl hbad
      go_enter Tryd.func7, Tryd.ntmps7
      go_wp2_with fail
      refine (HNO.out _ HX.out).mono ?_
      rintro e w1 ⟨rfl, hc1⟩
      have HC1 := As.mk hc1
      clear hc1
      rcases hgd with hg | ⟨hg1, hg2⟩
      · go_wp2_with fail
        go_ret
        exact ⟨rfl, (HC1.out.alloc _).below (Nat.le_refl _) (fun _ _ e => e)⟩
      · go_wp2_with fail
        go_ret
        exact ⟨rfl, (HC1.out.alloc _).below (Nat.le_refl _) (fun _ _ e => e)⟩
    · have h1 : 1 ≤ n := by omega
      have h254 : n ≤ 254 := by omega
      obtain ⟨t, ht⟩ : ∃ t, t = 1 + n := ⟨_, rfl⟩
      obtain ⟨L, hL⟩ : ∃ L, L = [(n : Int)] ++ xs := ⟨_, rfl⟩
      have hLl : t = L.length := by rw [hL]; simp; omega
      have HNO := As.mk (fun w0 (h0 : Rb w0 A xs) => newOid_good A n c t xs w0 hn h0 h1 h254 ht)
      have HSP := As.mk (fun w0 (h0 : Rb w0 A xs) => specOID_any A n c xs w0 hn h0 h254)
      have HRO : As (∀ (A5 : Option Addr) (c5 : Nat) w0, Sent w0 a0 a1 → t ≤ c5 → Rb w0 A5 L → Calls Tryd.prog 26 #[.slice A5 t c5, .int .i64 0] w0 fun e w' => Chg NoB w0 w' ∧ ∃ (A1 : Option Addr) (c1 : Nat) (A2 : Option Addr) (c2 : Nat), e = .returned (.tuple #[.agg #[.slice A1 n c1, .int .i64 ((n : Int) * 8), .slice A2 t c2, .int .i64 t], .int .i64 t, .int .i64 0]) ∧ Rb w' A1 xs ∧ Rb w' A2 L) := ⟨fun A5 c5 w0 hS0 hc5 h5 => by
        have h := readOid_ok A5 t c5 n L 0 w0 a0 a1 hS0 hLl hc5 h5 (by rw [hL]; simp [rd]) h1 h254 ht
        rw [show (L.drop 1).take n = xs from by rw [hL, hn]; simp] at h
        exact h⟩
      rw [← hL] at HNO HSP
      have HLL := As.mk hLl
      have hn8 : IntKind.i64.wrap (8 * (n : Int)) = (n : Int) * 8 := by simp [IntKind.wrap, IntKind.bits, IntKind.signed]; omega
      have htl : t ≤ 255 := by omega
      clear hx hS hn hb hl hbad ht hL hLl
      go_enter Tryd.func7, Tryd.ntmps7
      go_wp2_with fail
      refine (HNO.out _ HX.out).mono ?_
      rintro e w1 ⟨⟨A1, c1, A2, c2v, rfl, hr1, hr2, hcap⟩, hc1⟩
      have HC1 := As.mk hc1
      have HR1 := As.mk hr1
      have HR2 := As.mk hr2
      clear hc1 hr1 hr2
      go_wp2_with fail
      obtain ⟨wz, hwz⟩ : ∃ wz, wz = w1.alloc (.cells #[.slice A1 n c1, .int .i64 ((n : Int) * 8), .slice A2 t c2v, .int .i64 (t : Int)] 54) := ⟨_, rfl⟩
      have HCZ : As (Chg NoB w1 wz) := ⟨by rw [hwz]; exact (Chg.refl NoB w1).alloc _⟩
      have hbz : Blk wz w1.heap.size 54 [.slice A1 n c1, .int .i64 ((n : Int) * 8), .slice A2 t c2v, .int .i64 (t : Int)] := by rw [hwz]; exact Blk.new w1 _ _
      rw [← hwz]
      generalize w1.heap.size = gz at hbz ⊢
      have BZ := As.mk hbz
      have HWC := As.mk (HC1.out.trans HCZ.out (fun _ _ e => e))
      have K1 := As.mk (HR1.out.keep HCZ.out)
      have K2 := As.mk (HR2.out.keep HCZ.out)
      clear hwz hbz HCZ HR1 HR2 HC1 HNO
      refine (HRO.out A2 c2v _ (HS.out.keep HWC.out) hcap K2.out).mono ?_
      rintro e w2 ⟨hc2, A3, c3, A4, c4, rfl, hr3, hr4⟩
      have HC2 := As.mk (HWC.out.trans hc2 (fun _ _ e => e))
      have HR3 := As.mk hr3
      have HR4 := As.mk hr4
      have K12 := As.mk (K1.out.keep hc2)
      have K22 := As.mk (K2.out.keep hc2)
      have BZ2 := As.mk (BZ.out.chg hc2 (fun e => e))
      clear hc2 hr3 hr4 K1 K2 BZ HWC
      go_wp2_with fail
      obtain ⟨wy, hwy⟩ : ∃ wy, wy = w2.alloc (.cells #[.slice A3 n c3, .int .i64 ((n : Int) * 8), .slice A4 t c4, .int .i64 (t : Int)] 54) := ⟨_, rfl⟩
      have HCY : As (Chg NoB w2 wy) := ⟨by rw [hwy]; exact (Chg.refl NoB w2).alloc _⟩
      have hby : Blk wy w2.heap.size 54 [.slice A3 n c3, .int .i64 ((n : Int) * 8), .slice A4 t c4, .int .i64 (t : Int)] := by rw [hwy]; exact Blk.new w2 _ _
      rw [← hwy]
      generalize w2.heap.size = gy at hby ⊢
      have bz := BZ2.out.chg HCY.out (fun e => e)
      have x0 := bz.cell 0
      have x1 := bz.cell 1
      have x2 := bz.cell 2
      have x3 := bz.cell 3
      have v0 := hby.cell 0
      have v1 := hby.cell 1
      have v2 := hby.cell 2
      have v3 := hby.cell 3
      simp only [List.getElem?_cons_zero, List.getElem?_cons_succ] at x0 x1 x2 x3 v0 v1 v2 v3
      have BZY := As.mk bz
      have BY := As.mk hby
      have HCW := As.mk (HC2.out.trans HCY.out (fun _ _ e => e))
      have R3 := As.mk (HR3.out.keep HCY.out)
      have R4 := As.mk (HR4.out.keep HCY.out)
      have R1 := As.mk (K12.out.keep HCY.out)
      have R2 := As.mk (K22.out.keep HCY.out)
      have HXY := As.mk (HX.out.keep HCW.out)
      clear hwy hby bz HCY HR3 HR4 K12 K22 BZ2 HC2 HRO
      have HB : As (Chg NoB wy wy) := ⟨Chg.refl _ _⟩
      have KEEP : ∀ w', Chg NoB wy w' → (w'.cell? ⟨gz, 0, none⟩ = some (.slice A1 n c1) ∧ w'.cell? ⟨gz, 1, none⟩ = some (.int .i64 ((n : Int) * 8)) ∧ w'.cell? ⟨gz, 2, none⟩ = some (.slice A2 t c2v) ∧ w'.cell? ⟨gz, 3, none⟩ = some (.int .i64 (t : Int)) ∧ w'.cell? ⟨gy, 0, none⟩ = some (.slice A3 n c3) ∧ w'.cell? ⟨gy, 1, none⟩ = some (.int .i64 ((n : Int) * 8)) ∧ w'.cell? ⟨gy, 2, none⟩ = some (.slice A4 t c4) ∧ w'.cell? ⟨gy, 3, none⟩ = some (.int .i64 (t : Int))) := fun w' h =>
        have b1 := BZY.out.chg h (fun e => e)
        have b2 := BY.out.chg h (fun e => e)
        ⟨b1.cell 0, b1.cell 1, b1.cell 2, b1.cell 3, b2.cell 0, b2.cell 1, b2.cell 2, b2.cell 3⟩
      have KP := As.mk KEEP
      clear KEEP
      go_region_held3 (fun w' => w'.cell? ⟨gz, 0, none⟩ = some (.slice A1 n c1) ∧ w'.cell? ⟨gz, 1, none⟩ = some (.int .i64 ((n : Int) * 8)) ∧ w'.cell? ⟨gz, 2, none⟩ = some (.slice A2 t c2v) ∧ w'.cell? ⟨gz, 3, none⟩ = some (.int .i64 (t : Int)) ∧ w'.cell? ⟨gy, 0, none⟩ = some (.slice A3 n c3) ∧ w'.cell? ⟨gy, 1, none⟩ = some (.int .i64 ((n : Int) * 8)) ∧ w'.cell? ⟨gy, 2, none⟩ = some (.slice A4 t c4) ∧ w'.cell? ⟨gy, 3, none⟩ = some (.int .i64 (t : Int))) (exact KP.out _ (by repeat (first | exact HB.out | (with_reducible apply Chg.drew) | (with_reducible apply Chg.alloc)))) (first
        | (go_simp
           refine (HSP.out _ ?hx).mono ?_
           case hx => exact HXY.out.keep (by repeat (first | exact HB.out | (with_reducible apply Chg.drew) | (with_reducible apply Chg.alloc)))
           rintro e44 w44 ⟨v44, rfl, ho44, hc44⟩
           obtain ⟨A44, c44, hv44, _, hr44⟩ := ow_form ho44
           rw [← HLL.out] at hv44
           subst hv44
           have HR44 := As.mk hr44
           have HB44 : As (Chg NoB wy w44) := ⟨Chg.trans (by repeat (first | exact HB.out | (with_reducible apply Chg.drew) | (with_reducible apply Chg.alloc))) hc44 (fun _ _ e => e)⟩
           clear ho44 hr44 hc44 HB
           have HB := HB44
           clear HB44)
        | (go_simp
           refine (isField_yes A1 c1 A2 c2v A c A44 c44 n t ((n : Int) * 8) xs L _ HN.out HLL.out (R1.out.keep ?k1) (R2.out.keep ?k2) (HXY.out.keep ?k3) (HR44.out.keep ?k4)).mono ?_
           case k1 => exact (by repeat (first | exact HB.out | (with_reducible apply Chg.drew) | (with_reducible apply Chg.alloc)))
           case k2 => exact (by repeat (first | exact HB.out | (with_reducible apply Chg.drew) | (with_reducible apply Chg.alloc)))
           case k3 => exact (by repeat (first | exact HB.out | (with_reducible apply Chg.drew) | (with_reducible apply Chg.alloc)))
           case k4 => repeat (first | exact Chg.refl _ _ | (with_reducible apply Chg.drew) | (with_reducible apply Chg.alloc))
           rintro e45 w45 ⟨rfl, hc45⟩
           have HB45 : As (Chg NoB wy w45) := ⟨Chg.trans (by repeat (first | exact HB.out | (with_reducible apply Chg.drew) | (with_reducible apply Chg.alloc))) hc45 (fun _ _ e => e)⟩
           clear hc45 HB HR44
           have HB := HB45
           clear HB45)
        | (go_simp
           refine (isField_yes A3 c3 A4 c4 A c A2 c2v n t ((n : Int) * 8) xs L _ HN.out HLL.out (R3.out.keep ?k1) (R4.out.keep ?k2) (HXY.out.keep ?k3) (R2.out.keep ?k4)).mono ?_
           case k1 => exact (by repeat (first | exact HB.out | (with_reducible apply Chg.drew) | (with_reducible apply Chg.alloc)))
           case k2 => exact (by repeat (first | exact HB.out | (with_reducible apply Chg.drew) | (with_reducible apply Chg.alloc)))
           case k3 => exact (by repeat (first | exact HB.out | (with_reducible apply Chg.drew) | (with_reducible apply Chg.alloc)))
           case k4 => exact (by repeat (first | exact HB.out | (with_reducible apply Chg.drew) | (with_reducible apply Chg.alloc)))
           rintro e65 w65 ⟨rfl, hc65⟩
           have HB65 : As (Chg NoB wy w65) := ⟨Chg.trans (by repeat (first | exact HB.out | (with_reducible apply Chg.drew) | (with_reducible apply Chg.alloc))) hc65 (fun _ _ e => e)⟩
           clear hc65 HB
           have HB := HB65
           clear HB65))
      all_goals
        go_wp2
        go_ret
        exact ⟨rfl, (HCW.out.trans HB.out (fun _ _ e => e)).below (Nat.le_refl _) (fun _ _ e => e)⟩
  · clear hx hS hn hb hl
    go_enter Tryd.func7, Tryd.ntmps7
    go_wp2
    all_goals go_ret
    all_goals exact ⟨rfl, Below.refl _ _⟩
end Go.Proofs.YtllcfihbepmphaaDoor
