/- The contract of spec.OcbHash. -/
import Derived.Test.YtlpningplmbnhaaDoorOcS
import Derived.Test.YtlpningplmbnhaaDoorXored
import Derived.Deep.RegionHeld3
set_option linter.unusedVariables false
set_option linter.unusedSimpArgs false
namespace Go.Proofs.YtlpningplmbnhaaDoor
open Go.RowKit V
theorem made_two (w : World) : Own (((w.alloc (.cells (madeCells #[.int .u8 0] 16) 5)).alloc (.cells (madeCells #[.int .u8 0] 16) 5)).drew) w.heap.size 5 .u8 (.slice (some ⟨w.heap.size, 0, none⟩) 16 16) (List.replicate 16 0) ∧
    Own (((w.alloc (.cells (madeCells #[.int .u8 0] 16) 5)).alloc (.cells (madeCells #[.int .u8 0] 16) 5)).drew) w.heap.size 5 .u8 (.slice (some ⟨w.heap.size + 1, 0, none⟩) 16 16) (List.replicate 16 0) := by
  have hz : (w.alloc (.cells (madeCells #[.int .u8 0] 16) 5)).heap.size = w.heap.size + 1 := Array.size_push _
  refine ⟨own_keep (own_made w w.heap.size 5 .u8 16 (Nat.le_refl _) (by simp [maxLen])) (((Chg.refl NoB _).alloc _).drew), ?_⟩
  have h := own_made (w.alloc (.cells (madeCells #[.int .u8 0] 16) 5)) w.heap.size 5 .u8 16 (by omega) (by simp [maxLen])
  rw [hz] at h
  exact own_keep h ((Chg.refl NoB _).drew)
set_option maxRecDepth 100000 in
set_option maxHeartbeats 4000000 in
theorem specHash_any (PA : Option Addr) (pc : Nat) (SA : Option Addr) (sc : Nat) (MA : Option Addr) (mc : Nat) (perm sub mask : List Int) (TA : Option Addr) (tn tc : Nat) (text : List Int) (w : World)
    (hd : Pd w PA SA MA perm sub mask) (hrt : Rt perm sub mask) (rt : Rb w TA text) (htn : tn = text.length) (htc : tn ≤ tc) (bt : Byt text) (hl : tn ≤ 4096) :
    Calls Tryd.prog 9 #[dataV PA pc SA sc MA mc, .slice TA tn tc] w (Gives NoB w (hashL perm sub mask text)) := by
  have PD := As.mk hd
  have RT_ := As.mk hrt
  have RT := As.mk rt
  have HN := As.mk htn
  have BT := As.mk bt
  have HTC := As.mk htc
  have na := na_sen
  have me := me_sen
  have hmk : ∀ W : World, (Instr.makeSlice 22 (.int .i64 16) (.int .i64 16)).run Tryd.prog W = .ok (.slice (some ⟨W.heap.size, 0, none⟩) 16 16) (W.alloc (.cells (madeCells #[.int .u8 0] 16) 5)) := run_make_k (P := Tryd.prog) 22 5 .u8 1 Tryd.underlying22 info8 (by decide) 16 (by omega)
  obtain ⟨m, hmm⟩ : ∃ m, m = tn / 16 := ⟨_, rfl⟩
  have HMM := As.mk hmm
  have hm256 : m ≤ 256 := by omega
  clear hd hrt rt htn bt htc hmm
  go_enter Tryd.func9, Tryd.ntmps9
  go_wp2_with fail
  go_cut [5, 6] (fun s5 s6 wx => ∃ (a b : Addr), s5 = .slice (some a) 16 16 ∧ s6 = .slice (some b) 16 16 ∧ As (Own wx w.heap.size 5 .u8 (.slice (some a) 16 16) (List.replicate 16 0)) ∧ As (Rb wx (some b) (List.replicate 16 0)) ∧ As (Chg NoB w wx))
  case first =>
    have H2 := As.mk (made_two w)
    have HC2 : As (Chg NoB w (((w.alloc (.cells (madeCells #[.int .u8 0] 16) 5)).alloc (.cells (madeCells #[.int .u8 0] 16) 5)).drew)) := ⟨(((Chg.refl NoB w).alloc _).alloc _).drew⟩
    go_region
    all_goals
      go_wp2_with fail
      go_meet
      first
      | exact ⟨_, _, rfl, rfl, ⟨H2.out.1⟩, ⟨own_reads H2.out.2⟩, HC2⟩
      | exact ⟨_, _, rfl, rfl, ⟨H2.out.2⟩, ⟨own_reads H2.out.1⟩, HC2⟩
  case rest =>
    obtain ⟨a0, b0, rfl, rfl, O0, R0, C0⟩ := hcut
    have HEN : As (∀ x, (encL perm sub mask x).length = 16) := ⟨fun x => by rw [encL_length]; exact RT_.out.hm⟩
    have HEB : As (∀ x, Byt (encL perm sub mask x)) := ⟨fun x => encL_byt x RT_.out.bs RT_.out.bm⟩
    clear hmk
    go_wp2_with fail
    go_loopw [5, 6, 7] (fun v5 v6 v7 wr => ∃ (k c5 c6 : Nat) (a b : Addr), v5 = .slice (some a) 16 c5 ∧ v6 = .slice (some b) 16 c6 ∧ v7 = .int .i64 ((k + 1 : Nat) : Int) ∧ k ≤ m ∧ As (Own wr w.heap.size 5 .u8 (.slice (some a) 16 c5) (sumL16 perm sub mask text k)) ∧ As (Rb wr (some b) (offL perm sub mask k)) ∧ As (Chg NoB w wr)) (fun _ _ v7 _ => m + 1 - (intOf v7).toNat)
    case atStart => exact ⟨0, 16, 16, a0, b0, rfl, rfl, rfl, Nat.zero_le _, O0, R0, C0⟩
    case round =>
      clear O0 R0 C0
      obtain ⟨k, c5, c6, a5, b6, rfl, rfl, rfl, hk, O5, R6, HC⟩ := hrel
      obtain ⟨i1, hi1⟩ : ∃ i1, i1 = k + 1 := ⟨_, rfl⟩
      rw [← hi1]
      obtain ⟨a2, ha2⟩ : ∃ a2, a2 = 16 * i1 := ⟨_, rfl⟩
      have e5 : (16 : Int) * (i1 : Int) = (a2 : Int) := by omega
      have e6 : IntKind.i64.wrap (a2 : Int) = (a2 : Int) := by simp [IntKind.wrap, IntKind.bits, IntKind.signed]; omega
      have HX := As.mk (And.intro hi1 ha2)
      have HSL : As (16 = (sumL16 perm sub mask text k).length) := ⟨(sumL16_length _ _ _ _ _).symm⟩
      have HOL : As (16 = (offL perm sub mask k).length) := ⟨(offL_length _ _ _ _).symm⟩
      by_cases hlt : k < m
      · have hle : (a2 : Int) ≤ (tn : Int) := by have := HMM.out; omega
        have hle2 : a2 ≤ tn := by omega
        obtain ⟨a, ha⟩ : ∃ a, a2 = a + 16 := ⟨a2 - 16, by omega⟩
        have e7 : (a2 : Int) - 16 = (a : Int) := by omega
        have e8 : IntKind.i64.wrap (a : Int) = (a : Int) := by simp [IntKind.wrap, IntKind.bits, IntKind.signed]; omega
        have ei1 : 1 ≤ i1 := by omega
        have ei2 : i1 ≤ 256 := by omega
        obtain ⟨d, hd⟩ : ∃ d, d = tc - a := ⟨_, rfl⟩
        obtain ⟨A3, hcut3, _, hrd3⟩ := cut_mid (P := Tryd.prog) 22 5 Tryd.underlying22 size8 TA tn tc (a : Int) (a2 : Int) .i64 .i64 16 d (by omega) (by omega) (by have := HTC.out; omega) (by have := HTC.out; omega)
        have HRD : As (∀ w', Rb w' TA text → Rb w' A3 (chunkL text k)) := ⟨fun w' h => by
          have h2 := hrd3 w' .u8 text (by have := HN.out; omega) (by have := HTC.out; have := HN.out; omega) h
          unfold chunkL
          rw [show 16 * k = a by omega]
          rw [Int.toNat_natCast] at h2
          exact h2⟩
        have HCL : As (16 = (chunkL text k).length) := ⟨(chunkL_length (by have := HN.out; omega)).symm⟩
        have HLL := As.mk (lAtL_length perm sub mask (tz i1))
        have HT8 := As.mk (tz_le i1 ei1 ei2)
        have HLT := As.mk hlt
        clear hi1 ha2 ha hd hrd3 hlt
        go_wp2_with fail
        refine (zerosBehind_any i1 wr ei1 ei2).mono ?_
        rintro e7 w7 ⟨rfl, rfl⟩
        go_wp2_with fail
        refine (lAt_any PA pc SA sc MA mc perm sub mask (tz i1) w7 (PD.out.keep HC.out) RT_.out (by have := HT8.out; omega)).mono ?_
        rintro e8 w8 ⟨v8, rfl, ho8, hc8⟩
        obtain ⟨g8, c8, hv8, _, _, _⟩ := own_form_pos ho8 (by rw [HLL.out]; omega)
        rw [HLL.out] at hv8
        subst hv8
        have R8 := As.mk (own_reads ho8)
        have C8 := As.mk hc8
        clear ho8 hc8
        go_wp2_with fail
        refine (specXored_any (some b6) 16 c6 (offL perm sub mask k) (some ⟨g8, 0, none⟩) 16 c8 (lAtL perm sub mask (tz i1)) w8 HOL.out HLL.out.symm (R6.out.keep C8.out) R8.out (by rw [← HOL.out]; omega)).mono ?_
        rintro e9 w9 ⟨v9, rfl, ho9, hc9⟩
        have hoff : xorL (offL perm sub mask k) (lAtL perm sub mask (tz i1)) = offL perm sub mask i1 := by rw [HX.out.1]; rfl
        rw [hoff] at ho9
        obtain ⟨g9, c9, hv9, _, _, _⟩ := own_form_pos (ow_own ho9 (by rw [offL_length]; omega)) (by rw [offL_length]; omega)
        rw [offL_length] at hv9
        subst hv9
        have R9 := As.mk (own_reads (ow_own ho9 (by rw [offL_length]; omega)))
        have C9 : As (Chg NoB w7 w9) := ⟨C8.out.trans hc9 (fun _ _ e => e)⟩
        have HO9 : As (16 = (offL perm sub mask i1).length) := ⟨(offL_length _ _ _ _).symm⟩
        clear ho9 hc9 hoff
        have HCW : As (Chg NoB w w9) := ⟨HC.out.trans C9.out (fun _ _ e => e)⟩
        have HB : As (Chg NoB w9 w9) := ⟨Chg.refl _ _⟩
        have R3 := As.mk (HRD.out w9 (RT.out.keep HCW.out))
        have R5 := As.mk ((own_reads O5.out).keep C9.out)
        have HXL : As (16 = (xorL (chunkL text k) (offL perm sub mask i1)).length) := ⟨by rw [xorL_length]; exact HCL.out⟩
        have HXB : As (Byt (xorL (chunkL text k) (offL perm sub mask i1))) := ⟨xorL_byt ((BT.out.drop _).take _) (offL_byt _ _ _ _)⟩
        clear R8 C8 R6
        go_wp2_with fail
        go_region_law (first
          | (go_simp
             with_reducible refine (specXored_any A3 16 d (chunkL text k) (some ⟨g9, 0, none⟩) 16 c9 (offL perm sub mask i1) _ HCL.out HO9.out (R3.out.keep (by repeat (first | (with_reducible exact HB.out) | (with_reducible apply Chg.drew) | (with_reducible apply Chg.alloc)))) (R9.out.keep (by repeat (first | (with_reducible exact HB.out) | (with_reducible apply Chg.drew) | (with_reducible apply Chg.alloc)))) (by rw [← HCL.out]; omega)).mono ?_
             rintro e34 w34 ⟨v34, rfl, ho34, hc34⟩
             obtain ⟨A34, c34, hv34, _, hr34⟩ := ow_form ho34
             rw [← HXL.out] at hv34
             subst hv34
             have R34 := As.mk hr34
             have HB34 : As (Chg NoB w9 w34) := ⟨Chg.trans (by repeat (first | (with_reducible exact HB.out) | (with_reducible apply Chg.drew) | (with_reducible apply Chg.alloc))) hc34 (fun _ _ e => e)⟩
             clear ho34 hc34 hr34 HB
             have HB := HB34
             clear HB34)
          | (go_simp
             with_reducible refine (enc16 (PD.out.keep (Chg.trans (S' := NoB) HCW.out (by repeat (first | (with_reducible exact HB.out) | (with_reducible apply Chg.drew) | (with_reducible apply Chg.alloc))) (fun _ _ e => e))) RT_.out (R34.out.keep (by repeat (first | exact Chg.refl _ _ | (with_reducible apply Chg.drew) | (with_reducible apply Chg.alloc)))) HXB.out HXL.out).mono ?_
             rintro e38 w38 ⟨v38, rfl, ho38, hc38⟩
             obtain ⟨g38, c38, hv38, _, _, _⟩ := own_form_pos ho38 (by rw [HEN.out]; omega)
             rw [HEN.out] at hv38
             subst hv38
             have R38 := As.mk (own_reads ho38)
             have HB38 : As (Chg NoB w9 w38) := ⟨Chg.trans (by repeat (first | (with_reducible exact HB.out) | (with_reducible apply Chg.drew) | (with_reducible apply Chg.alloc))) hc38 (fun _ _ e => e)⟩
             clear ho38 hc38 HB
             have HB := HB38
             clear HB38)
          | (go_simp
             with_reducible refine (specXored_any (some a5) 16 c5 (sumL16 perm sub mask text k) (some ⟨g38, 0, none⟩) 16 c38 (encL perm sub mask (xorL (chunkL text k) (offL perm sub mask i1))) _ HSL.out (HEN.out _).symm (R5.out.keep (by repeat (first | (with_reducible exact HB.out) | (with_reducible apply Chg.drew) | (with_reducible apply Chg.alloc)))) (R38.out.keep (by repeat (first | exact Chg.refl _ _ | (with_reducible apply Chg.drew) | (with_reducible apply Chg.alloc)))) (by rw [← HSL.out]; omega)).mono ?_
             rintro e39 w39 ⟨v39, rfl, ho39, hc39⟩
             have hsum : xorL (sumL16 perm sub mask text k) (encL perm sub mask (xorL (chunkL text k) (offL perm sub mask i1))) = sumL16 perm sub mask text i1 := by rw [HX.out.1]; rfl
             rw [hsum] at ho39
             obtain ⟨g39, c39, hv39, _, _, _⟩ := own_form_pos (ow_own ho39 (by rw [sumL16_length]; omega)) (by rw [sumL16_length]; omega)
             rw [sumL16_length] at hv39
             subst hv39
             have O39 := As.mk (own_lower (base' := w9.heap.size) (ow_own ho39 (by rw [sumL16_length]; omega)) (Chg.size (S := NoB) (by repeat (first | (with_reducible exact HB.out) | (with_reducible apply Chg.drew) | (with_reducible apply Chg.alloc)))))
             have HB39 : As (Chg NoB w9 w39) := ⟨Chg.trans (by repeat (first | (with_reducible exact HB.out) | (with_reducible apply Chg.drew) | (with_reducible apply Chg.alloc))) hc39 (fun _ _ e => e)⟩
             clear ho39 hc39 HB hsum
             have HB := HB39
             clear HB39))
        all_goals
          go_wp2_with fail
          go_roundw
          case rel =>
            have hx := HX.out
            exact ⟨k + 1, c39, c9, _, _, rfl, rfl, by first | (rw [hx.1]; go_num) | go_num | rfl, by have := HLT.out; omega, ⟨by rw [← hx.1]; exact own_lower O39.out HCW.out.size⟩, ⟨by rw [← hx.1]; exact R9.out.keep HB.out⟩, ⟨HCW.out.trans HB.out (fun _ _ e => e)⟩⟩
          case measure => have hx := HX.out; have := HLT.out; simp [intOf]; omega
      · obtain rfl : k = m := by omega
        have hle : ¬ (a2 : Int) ≤ (tn : Int) := by have := HMM.out; omega
        obtain ⟨a, ha⟩ : ∃ a, a = 16 * k := ⟨_, rfl⟩
        obtain ⟨r, hr⟩ : ∃ r, r = tn % 16 := ⟨_, rfl⟩
        have har : a + r = tn := by have := HMM.out; omega
        have hr15 : r ≤ 15 := by omega
        have hrem : ((tn : Int).tmod 16) = (r : Int) := by rw [show (16 : Int) = ((16 : Nat) : Int) from rfl, ← Int.ofNat_tmod, hr]
        have hrem2 : ((tn : Int) % 16) = (r : Int) := by omega
        have hsub : (tn : Int) - (r : Int) = (a : Int) := by omega
        have hsubw : IntKind.i64.wrap (a : Int) = (a : Int) := by simp [IntKind.wrap, IntKind.bits, IntKind.signed]; omega
        obtain ⟨d, hd⟩ : ∃ d, d = tc - a := ⟨_, rfl⟩
        obtain ⟨A3, hcut3, hA3, hrd3⟩ := cut_from (P := Tryd.prog) 22 5 Tryd.underlying22 size8 TA tn tc (a : Int) .i64 r d (by omega) (by omega) (by have := HTC.out; omega) (by have := HTC.out; omega)
        have HRD : As (∀ w', Rb w' TA text → Rb w' A3 (text.drop a)) := ⟨fun w' h => by
          have h2 := hrd3 w' .u8 text (by have := HN.out; omega) h
          rw [Int.toNat_natCast] at h2
          exact h2⟩
        have HRL : As (r = (text.drop a).length) := ⟨by rw [List.length_drop, ← HN.out]; omega⟩
        by_cases hz : r = 0
        · subst hz
          have HP : As (hashL perm sub mask text = sumL16 perm sub mask text k) := ⟨by unfold hashL; rw [← HN.out, if_pos hr.symm, ← HMM.out]⟩
          clear hr har ha hd hrd3 hi1 ha2 hA3
          go_wp2_with fail
          all_goals
            go_ret
            exact ⟨_, rfl, by rw [HP.out]; exact O5.out, HC.out⟩
        · have hpos : (0 : Int) < (r : Int) := by omega
          have hA4 := hA3 (by omega)
          rw [Int.toNat_natCast] at hA4
          subst hA4
          have HP : As (hashL perm sub mask text = xorL (sumL16 perm sub mask text k) (encL perm sub mask (xorL (padB (text.drop a) 16) (xorL (offL perm sub mask k) (lAstL perm sub mask))))) := ⟨by unfold hashL; rw [← HN.out, if_neg (by omega), ← HMM.out, ha]⟩
          have HLA : As ((lAstL perm sub mask).length = 16) := ⟨lAstL_length RT_.out.hm⟩
          have hr16 : r < 16 := by omega
          clear hr har ha hd hrd3 hi1 ha2 hz hA3
          go_wp2_with fail
          refine (lAst_any PA pc SA sc MA mc perm sub mask wr (PD.out.keep HC.out) RT_.out).mono ?_
          rintro e8 w8 ⟨v8, rfl, ho8, hc8⟩
          obtain ⟨g8, c8, hv8, _, _, _⟩ := own_form_pos ho8 (by rw [HLA.out]; omega)
          rw [HLA.out] at hv8
          subst hv8
          have R8 := As.mk (own_reads ho8)
          have C8 := As.mk hc8
          clear ho8 hc8
          go_wp2_with fail
          refine (specXored_any (some b6) 16 c6 (offL perm sub mask k) (some ⟨g8, 0, none⟩) 16 c8 (lAstL perm sub mask) w8 HOL.out HLA.out.symm (R6.out.keep C8.out) R8.out (by rw [← HOL.out]; omega)).mono ?_
          rintro e9 w9 ⟨v9, rfl, ho9, hc9⟩
          obtain ⟨ol, hol⟩ : ∃ ol, ol = xorL (offL perm sub mask k) (lAstL perm sub mask) := ⟨_, rfl⟩
          have HOL2 : As (ol.length = 16 ∧ Byt ol) := ⟨by rw [hol]; exact ⟨by rw [xorL_length, offL_length], xorL_byt (offL_byt _ _ _ _) (lAstL_byt RT_.out.bs RT_.out.bm)⟩⟩
          rw [← hol] at ho9 HP
          obtain ⟨g9, c9, hv9, _, _, _⟩ := own_form_pos (ow_own ho9 (by rw [HOL2.out.1]; omega)) (by rw [HOL2.out.1]; omega)
          rw [HOL2.out.1] at hv9
          subst hv9
          have R9 := As.mk (own_reads (ow_own ho9 (by rw [HOL2.out.1]; omega)))
          have C9 : As (Chg NoB wr w9) := ⟨C8.out.trans hc9 (fun _ _ e => e)⟩
          clear ho9 hc9 hol
          have HCW : As (Chg NoB w w9) := ⟨HC.out.trans C9.out (fun _ _ e => e)⟩
          have HB : As (Chg NoB w9 w9) := ⟨Chg.refl _ _⟩
          have R3 := As.mk (HRD.out w9 (RT.out.keep HCW.out))
          have R5 := As.mk ((own_reads O5.out).keep C9.out)
          have HPB : As ((padB (text.drop a) 16).length = 16) := ⟨padB_length (by rw [← HRL.out]; exact hr16)⟩
          have HPY : As (Byt (padB (text.drop a) 16)) := ⟨((BT.out.drop _).append (fun x h => by simp at h; omega)).append (zeros_byt _)⟩
          have HXL : As (16 = (xorL (padB (text.drop a) 16) ol).length) := ⟨by rw [xorL_length]; exact HPB.out.symm⟩
          have HXB : As (Byt (xorL (padB (text.drop a) 16) ol)) := ⟨xorL_byt HPY.out HOL2.out.2⟩
          clear R8 C8 R6
          go_wp2_with fail
          go_region_law (first
            | (go_simp
               with_reducible refine (padded16 (Option.map (fun x => x.add a) TA) r d (text.drop a) _ HRL.out (R3.out.keep ?p58) hr16).mono ?_
               case p58 => exact (by repeat (first | (with_reducible exact HB.out) | (with_reducible apply Chg.drew) | (with_reducible apply Chg.alloc)))
               rintro e58 w58 ⟨v58, rfl, ho58, hc58⟩
               obtain ⟨g58, c58, hv58, _, _, _⟩ := own_form_pos ho58 (by rw [HPB.out]; omega)
               rw [HPB.out] at hv58
               subst hv58
               have R58 := As.mk (own_reads ho58)
               have HB58 : As (Chg NoB w9 w58) := ⟨Chg.trans (by repeat (first | (with_reducible exact HB.out) | (with_reducible apply Chg.drew) | (with_reducible apply Chg.alloc))) hc58 (fun _ _ e => e)⟩
               clear ho58 hc58 HB
               have HB := HB58
               clear HB58)
            | (go_simp
               with_reducible refine (specXored_any (some ⟨g58, 0, none⟩) 16 c58 (padB (text.drop a) 16) (some ⟨g9, 0, none⟩) 16 c9 ol _ HPB.out.symm HOL2.out.1.symm (R58.out.keep (by repeat (first | exact Chg.refl _ _ | (with_reducible apply Chg.drew) | (with_reducible apply Chg.alloc)))) (R9.out.keep (by repeat (first | (with_reducible exact HB.out) | (with_reducible apply Chg.drew) | (with_reducible apply Chg.alloc)))) (by rw [HPB.out]; omega)).mono ?_
               rintro e60 w60 ⟨v60, rfl, ho60, hc60⟩
               obtain ⟨A60, c60, hv60, _, hr60⟩ := ow_form ho60
               rw [← HXL.out] at hv60
               subst hv60
               have R60 := As.mk hr60
               have HB60 : As (Chg NoB w9 w60) := ⟨Chg.trans (by repeat (first | (with_reducible exact HB.out) | (with_reducible apply Chg.drew) | (with_reducible apply Chg.alloc))) hc60 (fun _ _ e => e)⟩
               clear ho60 hc60 hr60 HB
               have HB := HB60
               clear HB60)
            | (go_simp
               with_reducible refine (enc16 (PD.out.keep (Chg.trans (S' := NoB) HCW.out (by repeat (first | (with_reducible exact HB.out) | (with_reducible apply Chg.drew) | (with_reducible apply Chg.alloc))) (fun _ _ e => e))) RT_.out (R60.out.keep (by repeat (first | exact Chg.refl _ _ | (with_reducible apply Chg.drew) | (with_reducible apply Chg.alloc)))) HXB.out HXL.out).mono ?_
               rintro e64 w64 ⟨v64, rfl, ho64, hc64⟩
               obtain ⟨g64, c64, hv64, _, _, _⟩ := own_form_pos ho64 (by rw [HEN.out]; omega)
               rw [HEN.out] at hv64
               subst hv64
               have R64 := As.mk (own_reads ho64)
               have HB64 : As (Chg NoB w9 w64) := ⟨Chg.trans (by repeat (first | (with_reducible exact HB.out) | (with_reducible apply Chg.drew) | (with_reducible apply Chg.alloc))) hc64 (fun _ _ e => e)⟩
               clear ho64 hc64 HB
               have HB := HB64
               clear HB64)
            | (go_simp
               with_reducible refine (specXored_any (some a5) 16 c5 (sumL16 perm sub mask text k) (some ⟨g64, 0, none⟩) 16 c64 (encL perm sub mask (xorL (padB (text.drop a) 16) ol)) _ HSL.out (HEN.out _).symm (R5.out.keep (by repeat (first | (with_reducible exact HB.out) | (with_reducible apply Chg.drew) | (with_reducible apply Chg.alloc)))) (R64.out.keep (by repeat (first | exact Chg.refl _ _ | (with_reducible apply Chg.drew) | (with_reducible apply Chg.alloc)))) (by rw [← HSL.out]; omega)).mono ?_
               rintro e65 w65 ⟨v65, rfl, ho65, hc65⟩
               rw [← HP.out] at ho65
               have O65 := As.mk (own_lower (base' := w9.heap.size) (ow_own ho65 (by rw [hashL_length]; omega)) (Chg.size (S := NoB) (by repeat (first | (with_reducible exact HB.out) | (with_reducible apply Chg.drew) | (with_reducible apply Chg.alloc)))))
               have HB65 : As (Chg NoB w9 w65) := ⟨Chg.trans (by repeat (first | (with_reducible exact HB.out) | (with_reducible apply Chg.drew) | (with_reducible apply Chg.alloc))) hc65 (fun _ _ e => e)⟩
               clear ho65 hc65 HB
               have HB := HB65
               clear HB65))
          all_goals
            go_wp2_with fail
            go_ret
            exact ⟨_, rfl, own_lower O65.out HCW.out.size, HCW.out.trans HB.out (fun _ _ e => e)⟩
end Go.Proofs.YtlpningplmbnhaaDoor
