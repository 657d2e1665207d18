/- The contract of spec.Omac over a block cipher of plain data. -/
import Derived.Test.YthbgpbaneghmdaaOmacP
import Derived.Test.YthbgpbaneghmdaaEncS
import Derived.Test.YthbgpbaneghmdaaOctets
import Derived.Test.YthbgpbaneghmdaaXored
import Derived.Deep.RegionHeld3
import Derived.Deep.DeepCutAuto
set_option linter.unusedVariables false
set_option linter.unusedSimpArgs false
namespace Go.Proofs.Ythbgpbaneghmdaa
open Go.RowKit V
theorem na_sen (v1 v2 v3 : Value) (w : World) : (nilAhead 285 61 (.agg #[v1, v2, v3]) "Encipher").run Try.prog w = .ok (some false) w := by kernel_rfl
theorem me_sen (v1 v2 v3 : Value) (w : World) : (method 285 61 (.agg #[v1, v2, v3]) "Encipher").run Try.prog w = .ok (91, .agg #[v1, v2, v3]) w := by kernel_rfl
theorem oct_eq {t : Int} (h : 0 ≤ t ∧ t ≤ 255) : oct t 16 = (List.replicate 16 0).set 15 t := by
  rw [eq_tab ((List.replicate 16 (0 : Int)).set 15 t), List.length_set, List.length_replicate]
  exact tab_congr fun i hi => oct_twk h i hi
/-- A cipher of plain data: its parts read. -/
structure Pd (w : World) (PA : Option Addr) (SA : Option Addr) (MA : Option Addr) (perm sub mask : List Int) : Prop where
  rp : Rb w PA perm
  rs : Rb w SA sub
  rm : Rb w MA mask
theorem Pd.keep {w w' : World} {PA SA MA : Option Addr} {perm sub mask : List Int} (h : Pd w PA SA MA perm sub mask) (hc : Chg NoB w w') : Pd w' PA SA MA perm sub mask := ⟨h.rp.keep hc, h.rs.keep hc, h.rm.keep hc⟩
/-- .. and the cipher is right, of 16 bytes. -/
structure Rt (perm sub mask : List Int) : Prop where
  hr : RightB perm sub 16
  hm : mask.length = 16
  bs : Byt sub
  bm : Byt mask
theorem enc16 {PA : Option Addr} {pc : Nat} {SA : Option Addr} {sc : Nat} {MA : Option Addr} {mc : Nat} {perm sub mask : List Int} {w : World} (h : Pd w PA SA MA perm sub mask) (r : Rt perm sub mask) {XA : Option Addr} {xc : Nat} {xs : List Int} (rx : Rb w XA xs) (bx : Byt xs) (hx : 16 = xs.length) :
    Calls Try.prog 91 #[.agg #[.slice PA 16 pc, .slice SA 256 sc, .slice MA 16 mc], .slice XA 16 xc] w (Gives NoB w (encL perm sub mask xs)) :=
  encipher_any PA 16 pc SA sc MA mc perm sub mask XA xc xs w r.hr r.hm r.bs r.bm h.rp h.rs h.rm rx bx hx
theorem padded16 (A : Option Addr) (n c : Nat) (xs : List Int) (w : World) (hn : n = xs.length) (rx : Rb w A xs) (hs : n < 16) :
    Calls Try.prog 34 #[.slice A n c, .int .i64 16] w (Gives NoB w (padB xs 16)) := paddedBlock_any A n c xs 16 w hn rx hs (by omega)
set_option maxRecDepth 100000 in
set_option maxHeartbeats 2000000 in
theorem specOmac_any (PA : Option Addr) (pc : Nat) (SA : Option Addr) (sc : Nat) (MA : Option Addr) (mc : Nat) (perm sub mask : List Int) (t : Int) (TA : Option Addr) (tn tc : Nat) (text : List Int) (w : World)
    (hd : Pd w PA SA MA perm sub mask) (hrt : Rt perm sub mask) (ht : 0 ≤ t ∧ t ≤ 255) (rt : Rb w TA text) (htn : tn = text.length) (bt : Byt text) (hl : tn ≤ 4294967296) :
    Calls Try.prog 12 #[.iface 61 (.agg #[.slice PA 16 pc, .slice SA 256 sc, .slice MA 16 mc]), .int .u8 t, .slice TA tn tc] w (Gives NoB w (omacL perm sub mask (twk t text))) := by
  have PD := As.mk hd
  have RT_ := As.mk hrt
  have RT := As.mk rt
  have HN := As.mk htn
  have HT := As.mk ht
  have BT := As.mk (twk_byt ht bt)
  have HTL := As.mk (twk_length t text)
  have na := na_sen
  have me := me_sen
  clear hd hrt rt htn bt ht
  have ht0 := HT.out.1
  have ht1 := HT.out.2
  go_enter Try.func12, Try.ntmps12
  go_wp2_with fail
  refine (octets_any t 16 w (by omega) (by omega) (by omega)).mono ?_
  rintro e1 w1 ⟨v1, rfl, ho1, hc1⟩
  rw [oct_eq HT.out] at ho1
  have O1 := As.mk ho1
  have C1 := As.mk hc1
  have HL16 : As (((List.replicate 16 (0 : Int)).set 15 t).length = 16) := ⟨by rw [List.length_set, List.length_replicate]⟩
  clear ho1 hc1
  go_wp2_with (at_builtin; refine wpList_append_ow rfl _ _ 22 rfl 5 .u8 1 Try.underlying22 info8 (by decide) _ w.heap.size ((List.replicate 16 0).set 15 t) text TA tn tc rfl rfl HN.out (ow_of O1.out) (RT.out.keep C1.out) C1.out.size (by rw [HL16.out]; have := HN.out; omega) ?_
               intro v2 w2 ho2 hc2
               have hown := ow_own ho2 (by rw [List.length_append, HL16.out]; omega)
               obtain ⟨g2, c2, hv2, hl2, _, _⟩ := own_form_pos hown (by rw [List.length_append, HL16.out]; omega)
               rw [show ((List.replicate 16 (0 : Int)).set 15 t ++ text).length = 16 + tn from by rw [List.length_append, HL16.out, HN.out]] at hv2 hl2
               subst hv2
               have O2 : As (Own w2 w.heap.size 5 .u8 (.slice (some ⟨g2, 0, none⟩) (16 + tn) c2) (twk t text)) := ⟨hown⟩
               have C2 : As (Chg NoB w w2) := ⟨Chg.over C1.out hc2 (Nat.le_refl _)⟩
               have HC2 := As.mk hl2
               clear ho2 hc2 hown hl2)
  obtain ⟨L, hL⟩ : ∃ L, L = 16 + tn := ⟨_, rfl⟩
  have HLL := As.mk hL
  have hL16 : 16 ≤ L := by omega
  have hLb : L ≤ 4294967312 := by omega
  rw [← hL] at O2 HC2 ⊢
  clear hL
  have hmk : ∀ W : World, (Instr.makeSlice 22 (.int .i64 16) (.int .i64 16)).run Try.prog W = .ok (.slice (some ⟨W.heap.size, 0, none⟩) 16 16) (W.alloc (.cells (madeCells #[.int .u8 0] 16) 5)) := run_make_k (P := Try.prog) 22 5 .u8 1 Try.underlying22 info8 (by decide) 16 (by omega)
  have HB : As (Chg NoB w2 w2) := ⟨Chg.refl _ _⟩
  have HE0 : As ((omac0 perm sub mask).length = 16) := ⟨by unfold omac0; rw [encL_length]; exact RT_.out.hm⟩
  have HEB0 : As (Byt (omac0 perm sub mask)) := ⟨encL_byt _ RT_.out.bs RT_.out.bm⟩
  go_wp2_with fail
  go_cut [8] (fun s8 wx => ∃ (g c : Nat), s8 = .slice (some ⟨g, 0, none⟩) 16 c ∧ As (Rb wx (some ⟨g, 0, none⟩) (dbl (omac0 perm sub mask))) ∧ As (Chg NoB w2 wx))
  case first =>
    go_region_law (first
      | (go_simp
         refine (enc16 (PD.out.keep (Chg.trans (S' := NoB) C2.out ?c1 (fun _ _ e => e))) RT_.out (xs := List.replicate 16 0) ?rr (zeros_byt 16) (by simp)).mono ?_
         case c1 => exact (by repeat (first | (with_reducible exact HB.out) | (with_reducible apply Chg.drew) | (with_reducible apply Chg.alloc)))
         case rr => first | exact own_reads (own_made _ 0 _ _ 16 (Nat.zero_le _) (by simp [maxLen])) | exact Rk.drew (own_reads (own_made _ 0 _ _ 16 (Nat.zero_le _) (by simp [maxLen])))
         rintro e6 w6 ⟨v6, rfl, ho6, hc6⟩
         obtain ⟨g6, c6, hv6, _, _, _⟩ := own_form_pos ho6 (by rw [encL_length, RT_.out.hm]; omega)
         rw [show (encL perm sub mask (List.replicate 16 0)).length = 16 from by rw [encL_length]; exact RT_.out.hm] at hv6
         subst hv6
         have R6 : As (Rb w6 (some ⟨g6, 0, none⟩) (omac0 perm sub mask)) := ⟨own_reads ho6⟩
         have HB6 : As (Chg NoB w2 w6) := ⟨Chg.trans (by repeat (first | (with_reducible exact HB.out) | (with_reducible apply Chg.drew) | (with_reducible apply Chg.alloc))) hc6 (fun _ _ e => e)⟩
         clear ho6 hc6 HB
         have HB := HB6
         clear HB6)
      | (go_simp
         refine (doubled_any (some ⟨g6, 0, none⟩) c6 (omac0 perm sub mask) _ HE0.out (R6.out.keep ?c2) HEB0.out).mono ?_
         case c2 => exact (by repeat (first | exact Chg.refl _ _ | (with_reducible apply Chg.drew) | (with_reducible apply Chg.alloc)))
         rintro e7 w7 ⟨v7, rfl, ho7, hc7⟩
         obtain ⟨g7, c7, hv7, _, _, _⟩ := own_form_pos ho7 (by rw [dbl_length]; omega)
         rw [dbl_length] at hv7
         subst hv7
         have R7 : As (Rb w7 (some ⟨g7, 0, none⟩) (dbl (omac0 perm sub mask))) := ⟨own_reads ho7⟩
         have HB7 : As (Chg NoB w2 w7) := ⟨Chg.trans (by repeat (first | (with_reducible exact HB.out) | (with_reducible apply Chg.drew) | (with_reducible apply Chg.alloc))) hc7 (fun _ _ e => e)⟩
         clear ho7 hc7 HB
         have HB := HB7
         clear HB7))
    all_goals
      go_wp2_with fail
      go_meet
      exact ⟨g7, c7, rfl, R7, HB⟩
  case rest =>
    obtain ⟨gB, cB, rfl, RBx, CX⟩ := hcut
    have HDBL := As.mk (dbl_byt (omac0 perm sub mask))
    have HDL : As (16 = (dbl (omac0 perm sub mask)).length) := ⟨(dbl_length _).symm⟩
    clear HB hmk
    go_wp2_with ((with_reducible refine gate (N := 22) rfl ?_); refine wpList_make_k rfl _ 22 rfl 5 .u8 1 Try.underlying22 info8 (by decide) 16 _ rfl rfl (by omega) ?_
                 intro w8 g8 HG8 ho8 hc8 hz8
                 have R8 : As (Rb w8 (some ⟨g8, 0, none⟩) (sSt (encL perm sub mask) (twk t text) 0)) := ⟨own_reads ho8⟩
                 have C8 : As (Chg NoB w2 w8) := ⟨CX.out.trans hc8 (fun _ _ e => e)⟩
                 have RB8 := As.mk (RBx.out.keep hc8)
                 clear ho8 hc8 hz8)
    have HEN : As (∀ x, (encL perm sub mask x).length = 16) := ⟨fun x => by rw [encL_length]; exact RT_.out.hm⟩
    have HEB : As (∀ x, Byt (encL perm sub mask x)) := ⟨fun x => encL_byt x RT_.out.bs RT_.out.bm⟩
    go_loopw [7, 9] (fun v7 v9 wr => ∃ (k r lc sc' : Nat) (LA : Option Addr) (ad : Addr), v7 = .slice LA r lc ∧ v9 = .slice (some ad) 16 sc' ∧ 1 ≤ r ∧ r ≤ 4294967312 ∧ As (r + k * 16 = L) ∧ As (r ≤ lc) ∧ As (Rb wr LA ((twk t text).drop (k * 16))) ∧ As (Rb wr (some ad) (sSt (encL perm sub mask) (twk t text) k)) ∧ As (Chg NoB w8 wr)) (fun v _ _ => lenV v)
    case atStart => exact ⟨0, L, c2, 16, _, _, rfl, rfl, by omega, by omega, ⟨by omega⟩, ⟨HC2.out⟩, ⟨(own_reads O2.out).keep C8.out⟩, R8, ⟨Chg.refl _ _⟩⟩
    case round =>
      obtain ⟨k, r, lc, sc', LA, ad, rfl, rfl, hr1, hrb, HK, HLC, RL, RS, HC⟩ := hrel
      have hdl : ((twk t text).drop (k * 16)).length = r := by rw [List.length_drop, HTL.out, ← HN.out, ← HLL.out]; have := HK.out; omega
      have HDRL := As.mk hdl
      have HSL : As (16 = (sSt (encL perm sub mask) (twk t text) k).length) := ⟨(sSt_length HEN.out _ k).symm⟩
      clear hdl
      by_cases hgt : 16 < r
      · have k1 : ∀ W : World, (Instr.slice 22 (.slice LA r lc) none (some (.int .i64 16)) none).run Try.prog W = .ok (.slice LA 16 lc) W := cut_to (P := Try.prog) 22 5 Try.underlying22 size8 LA r lc 16 .i64 16 rfl (by have := HLC.out; omega)
        obtain ⟨A3, k3, HA3, HR3⟩ := cut_from (P := Try.prog) 22 5 Try.underlying22 size8 LA r lc 16 .i64 (r - 16) (lc - 16) (by omega) (by omega) (by have := HLC.out; omega) HLC.out
        have HRA := As.mk HR3
        have HTK : As (16 = (((twk t text).drop (k * 16)).take 16).length) := ⟨by rw [List.length_take, HDRL.out]; omega⟩
        have HXL : As (16 = (xorL (sSt (encL perm sub mask) (twk t text) k) (((twk t text).drop (k * 16)).take 16)).length) := ⟨by rw [xorL_length]; exact HSL.out⟩
        have HXB : As (Byt (xorL (sSt (encL perm sub mask) (twk t text) k) (((twk t text).drop (k * 16)).take 16))) := ⟨xorL_byt (sSt_byt HEB.out _ k) ((BT.out.drop _).take _)⟩
        have RLT := As.mk (RL.out.take_ 16)
        have HB : As (Chg NoB wr wr) := ⟨Chg.refl _ _⟩
        have HPD := As.mk (PD.out.keep (Chg.trans (S' := NoB) (Chg.trans (S' := NoB) C2.out C8.out (fun _ _ e => e)) HC.out (fun _ _ e => e)))
        clear HA3 HR3
        go_wp2_with fail
        go_cut [9] (fun s9 wx => ∃ (g c : Nat), s9 = .slice (some ⟨g, 0, none⟩) 16 c ∧ As (Rb wx (some ⟨g, 0, none⟩) (sSt (encL perm sub mask) (twk t text) (k + 1))) ∧ As (Chg NoB wr wx))
        case first =>
          go_region_law (first
            | (go_simp
               refine (specXored_any (some ad) 16 sc' (sSt (encL perm sub mask) (twk t text) k) LA 16 lc (((twk t text).drop (k * 16)).take 16) _ HSL.out HTK.out (RS.out.keep ?c1) (RLT.out.keep ?c2) (by rw [← HSL.out]; omega)).mono ?_
               case c1 => exact (by repeat (first | (with_reducible exact HB.out) | (with_reducible apply Chg.drew) | (with_reducible apply Chg.alloc)))
               case c2 => exact (by repeat (first | (with_reducible exact HB.out) | (with_reducible apply Chg.drew) | (with_reducible apply Chg.alloc)))
               rintro e6 w6 ⟨v6, rfl, ho6, hc6⟩
               obtain ⟨A6, c6, hv6, _, hr6⟩ := ow_form ho6
               rw [← HXL.out] at hv6
               subst hv6
               have R6 := As.mk hr6
               have HB6 : As (Chg NoB wr w6) := ⟨Chg.trans (by repeat (first | (with_reducible exact HB.out) | (with_reducible apply Chg.drew) | (with_reducible apply Chg.alloc))) hc6 (fun _ _ e => e)⟩
               clear ho6 hc6 hr6 HB
               have HB := HB6
               clear HB6)
            | (go_simp
               refine (enc16 (HPD.out.keep ?c1) RT_.out (R6.out.keep ?c2) HXB.out HXL.out).mono ?_
               case c1 => exact (by repeat (first | (with_reducible exact HB.out) | (with_reducible apply Chg.drew) | (with_reducible apply Chg.alloc)))
               case c2 => exact (by repeat (first | exact Chg.refl _ _ | (with_reducible apply Chg.drew) | (with_reducible apply Chg.alloc)))
               rintro e7 w7 ⟨v7, rfl, ho7, hc7⟩
               obtain ⟨g7, c7, hv7, _, _, _⟩ := own_form_pos ho7 (by rw [HEN.out]; omega)
               rw [HEN.out] at hv7
               subst hv7
               have R7 : As (Rb w7 (some ⟨g7, 0, none⟩) (sSt (encL perm sub mask) (twk t text) (k + 1))) := ⟨own_reads ho7⟩
               have HB7 : As (Chg NoB wr w7) := ⟨Chg.trans (by repeat (first | (with_reducible exact HB.out) | (with_reducible apply Chg.drew) | (with_reducible apply Chg.alloc))) hc7 (fun _ _ e => e)⟩
               clear ho7 hc7 HB
               have HB := HB7
               clear HB7))
          all_goals
            go_wp2_with fail
            go_meet
            exact ⟨g7, c7, rfl, R7, HB⟩
        case rest =>
          obtain ⟨g7, c7, rfl, R7, C7⟩ := hcut
          go_wp2_with fail
          go_roundw
          case rel =>
            refine ⟨k + 1, r - 16, lc - 16, c7, A3, ⟨g7, 0, none⟩, rfl, rfl, by omega, by omega, ⟨by have := HK.out; omega⟩, ⟨by have := HLC.out; omega⟩, ⟨?_⟩, R7, ⟨HC.out.trans C7.out (fun _ _ e => e)⟩⟩
            have h := HRA.out _ .u8 _ HDRL.out (RL.out.keep C7.out)
            rw [List.drop_drop, show k * 16 + (16 : Int).toNat = (k + 1) * 16 from by omega] at h
            exact h
          case measure => simp [lenV]; omega
      · have hk : (L - 1) / 16 = k := by have := HK.out; omega
        have HTW : As ((twk t text).length = L) := ⟨by rw [HTL.out, ← HN.out, HLL.out]⟩
        have HPD := As.mk (PD.out.keep (Chg.trans (S' := NoB) (Chg.trans (S' := NoB) C2.out C8.out (fun _ _ e => e)) HC.out (fun _ _ e => e)))
        have HCA : As (Chg NoB w wr) := ⟨Chg.trans (S' := NoB) (Chg.trans (S' := NoB) C2.out C8.out (fun _ _ e => e)) HC.out (fun _ _ e => e)⟩
        have RBr : As (Rb wr (some ⟨gB, 0, none⟩) (dbl (omac0 perm sub mask))) := ⟨RB8.out.keep HC.out⟩
        have HKK := As.mk hk
        have HB : As (Chg NoB wr wr) := ⟨Chg.refl _ _⟩
        have HFIN := As.mk (sOm_omacL (perm := perm) (sub := sub) (mask := mask) (l := twk t text) RT_.out.hm RT_.out.bs RT_.out.bm BT.out (by rw [HTW.out]; omega))
        clear hk
        by_cases h16 : r = 16
        · subst h16
          have HX1 : As (16 = (xorL ((twk t text).drop (k * 16)) (dbl (omac0 perm sub mask))).length) := ⟨by rw [xorL_length]; exact HDRL.out.symm⟩
          have HXL : As (16 = (xorL (sSt (encL perm sub mask) (twk t text) k) (xorL ((twk t text).drop (k * 16)) (dbl (omac0 perm sub mask)))).length) := ⟨by rw [xorL_length]; exact HSL.out⟩
          have HXB : As (Byt (xorL (sSt (encL perm sub mask) (twk t text) k) (xorL ((twk t text).drop (k * 16)) (dbl (omac0 perm sub mask))))) := ⟨xorL_byt (sSt_byt HEB.out _ k) (xorL_byt (BT.out.drop _) HDBL.out)⟩
          go_wp2_with fail
          go_region_law (first
          | (go_simp
             with_reducible refine (specXored_any LA 16 lc ((twk t text).drop (k * 16)) (some ⟨gB, 0, none⟩) 16 cB (dbl (omac0 perm sub mask)) _ HDRL.out.symm HDL.out (RL.out.keep (by repeat (first | (with_reducible exact HB.out) | (with_reducible apply Chg.drew) | (with_reducible apply Chg.alloc)))) (RBr.out.keep (by repeat (first | (with_reducible exact HB.out) | (with_reducible apply Chg.drew) | (with_reducible apply Chg.alloc)))) (by rw [← HDRL.out.symm]; omega)).mono ?_
             rintro e45 w45 ⟨v45, rfl, ho45, hc45⟩
             obtain ⟨A45, c45, hv45, _, hr45⟩ := ow_form ho45
             rw [xorL_length, ← HDRL.out.symm] at hv45
             subst hv45
             have R45 := As.mk hr45
             have HB45 : As (Chg NoB wr w45) := ⟨Chg.trans (by repeat (first | (with_reducible exact HB.out) | (with_reducible apply Chg.drew) | (with_reducible apply Chg.alloc))) hc45 (fun _ _ e => e)⟩
             clear ho45 hc45 hr45 HB
             have HB := HB45
             clear HB45)
          | (go_simp
             with_reducible refine (specXored_any (some ad) 16 sc' (sSt (encL perm sub mask) (twk t text) k) A45 16 c45 (xorL ((twk t text).drop (k * 16)) (dbl (omac0 perm sub mask))) _ HSL.out HX1.out (RS.out.keep (by repeat (first | (with_reducible exact HB.out) | (with_reducible apply Chg.drew) | (with_reducible apply Chg.alloc)))) (R45.out.keep (by repeat (first | exact Chg.refl _ _ | (with_reducible apply Chg.drew) | (with_reducible apply Chg.alloc)))) (by rw [← HSL.out]; omega)).mono ?_
             rintro e46 w46 ⟨v46, rfl, ho46, hc46⟩
             obtain ⟨A46, c46, hv46, _, hr46⟩ := ow_form ho46
             rw [xorL_length, ← HSL.out] at hv46
             subst hv46
             have R46 := As.mk hr46
             have HB46 : As (Chg NoB wr w46) := ⟨Chg.trans (by repeat (first | (with_reducible exact HB.out) | (with_reducible apply Chg.drew) | (with_reducible apply Chg.alloc))) hc46 (fun _ _ e => e)⟩
             clear ho46 hc46 hr46 HB
             have HB := HB46
             clear HB46)
          | (go_simp
             with_reducible refine (enc16 (HPD.out.keep (by repeat (first | (with_reducible exact HB.out) | (with_reducible apply Chg.drew) | (with_reducible apply Chg.alloc)))) RT_.out (R46.out.keep (by repeat (first | exact Chg.refl _ _ | (with_reducible apply Chg.drew) | (with_reducible apply Chg.alloc)))) HXB.out HXL.out).mono ?_
             rintro e49 w49 ⟨v49, rfl, ho49, hc49⟩
             obtain ⟨g49, c49, hv49, _, _, _⟩ := own_form_pos ho49 (by rw [HEN.out]; omega)
             rw [HEN.out] at hv49
             subst hv49
             have O49 := As.mk (own_lower (base' := wr.heap.size) ho49 (Chg.size (S := NoB) (by repeat (first | (with_reducible exact HB.out) | (with_reducible apply Chg.drew) | (with_reducible apply Chg.alloc)))))
             have HB49 : As (Chg NoB wr w49) := ⟨Chg.trans (by repeat (first | (with_reducible exact HB.out) | (with_reducible apply Chg.drew) | (with_reducible apply Chg.alloc))) hc49 (fun _ _ e => e)⟩
             clear ho49 hc49 HB
             have HB := HB49
             clear HB49))
          all_goals
            go_wp2_with fail
            go_ret
            have hf := HFIN.out
            unfold sOm at hf
            rw [HTW.out, HKK.out, if_pos HDRL.out] at hf
            rw [← hf]
            have ho := own_lower (base' := w.heap.size) O49.out HCA.out.size
            exact ⟨_, rfl, ho, HCA.out.trans HB.out (fun _ _ e => e)⟩
        · have hlt16 : r < 16 := by omega
          have hne : ((r : Int) == 16) = false := by simp; omega
          have HPB : As ((padB ((twk t text).drop (k * 16)) 16).length = 16) := ⟨padB_length (by rw [HDRL.out]; exact hlt16)⟩
          have HDL2 : As (16 = (dbl (dbl (omac0 perm sub mask))).length) := ⟨(dbl_length _).symm⟩
          have HX1 : As (16 = (xorL (padB ((twk t text).drop (k * 16)) 16) (dbl (dbl (omac0 perm sub mask)))).length) := ⟨by rw [xorL_length]; exact HPB.out.symm⟩
          have HXL : As (16 = (xorL (sSt (encL perm sub mask) (twk t text) k) (xorL (padB ((twk t text).drop (k * 16)) 16) (dbl (dbl (omac0 perm sub mask))))).length) := ⟨by rw [xorL_length]; exact HSL.out⟩
          have HXB : As (Byt (xorL (sSt (encL perm sub mask) (twk t text) k) (xorL (padB ((twk t text).drop (k * 16)) 16) (dbl (dbl (omac0 perm sub mask)))))) := ⟨xorL_byt (sSt_byt HEB.out _ k) (xorL_byt (((BT.out.drop _).append (fun x h => by rw [List.mem_singleton.1 h]; omega)).append (zeros_byt _)) (dbl_byt _))⟩
          clear h16
          go_wp2_with fail
          go_region_law (first
          | (go_simp
             with_reducible refine (padded16 LA r lc ((twk t text).drop (k * 16)) _ HDRL.out.symm (RL.out.keep (by repeat (first | (with_reducible exact HB.out) | (with_reducible apply Chg.drew) | (with_reducible apply Chg.alloc)))) hlt16).mono ?_
             rintro e53 w53 ⟨v53, rfl, ho53, hc53⟩
             obtain ⟨g53, c53, hv53, _, _, _⟩ := own_form_pos ho53 (by rw [HPB.out]; omega)
             rw [HPB.out] at hv53
             subst hv53
             have R53 := As.mk (own_reads ho53)
             have HB53 : As (Chg NoB wr w53) := ⟨Chg.trans (by repeat (first | (with_reducible exact HB.out) | (with_reducible apply Chg.drew) | (with_reducible apply Chg.alloc))) hc53 (fun _ _ e => e)⟩
             clear ho53 hc53 HB
             have HB := HB53
             clear HB53)
          | (go_simp
             with_reducible refine (doubled_any (some ⟨gB, 0, none⟩) cB (dbl (omac0 perm sub mask)) _ HDL.out.symm (RBr.out.keep (by repeat (first | (with_reducible exact HB.out) | (with_reducible apply Chg.drew) | (with_reducible apply Chg.alloc)))) HDBL.out).mono ?_
             rintro e55 w55 ⟨v55, rfl, ho55, hc55⟩
             obtain ⟨g55, c55, hv55, _, _, _⟩ := own_form_pos ho55 (by rw [dbl_length]; omega)
             rw [dbl_length] at hv55
             subst hv55
             have R55 := As.mk (own_reads ho55)
             have R53b := As.mk (R53.out.keep (Chg.trans (S := NoB) (by repeat (first | exact Chg.refl _ _ | (with_reducible apply Chg.drew) | (with_reducible apply Chg.alloc))) hc55 (fun _ _ e => e)))
             have HB55 : As (Chg NoB wr w55) := ⟨Chg.trans (by repeat (first | (with_reducible exact HB.out) | (with_reducible apply Chg.drew) | (with_reducible apply Chg.alloc))) hc55 (fun _ _ e => e)⟩
             clear ho55 hc55 HB R53
             have HB := HB55
             clear HB55)
          | (go_simp
             with_reducible refine (specXored_any (some ⟨g53, 0, none⟩) 16 c53 (padB ((twk t text).drop (k * 16)) 16) (some ⟨g55, 0, none⟩) 16 c55 (dbl (dbl (omac0 perm sub mask))) _ HPB.out.symm HDL2.out (R53b.out.keep (by repeat (first | exact Chg.refl _ _ | (with_reducible apply Chg.drew) | (with_reducible apply Chg.alloc)))) (R55.out.keep (by repeat (first | exact Chg.refl _ _ | (with_reducible apply Chg.drew) | (with_reducible apply Chg.alloc)))) (by rw [← HPB.out.symm]; omega)).mono ?_
             rintro e56 w56 ⟨v56, rfl, ho56, hc56⟩
             obtain ⟨A56, c56, hv56, _, hr56⟩ := ow_form ho56
             rw [xorL_length, ← HPB.out.symm] at hv56
             subst hv56
             have R56 := As.mk hr56
             have HB56 : As (Chg NoB wr w56) := ⟨Chg.trans (by repeat (first | (with_reducible exact HB.out) | (with_reducible apply Chg.drew) | (with_reducible apply Chg.alloc))) hc56 (fun _ _ e => e)⟩
             clear ho56 hc56 hr56 HB
             have HB := HB56
             clear HB56)
          | (go_simp
             with_reducible refine (specXored_any (some ad) 16 sc' (sSt (encL perm sub mask) (twk t text) k) A56 16 c56 (xorL (padB ((twk t text).drop (k * 16)) 16) (dbl (dbl (omac0 perm sub mask)))) _ HSL.out HX1.out (RS.out.keep (by repeat (first | (with_reducible exact HB.out) | (with_reducible apply Chg.drew) | (with_reducible apply Chg.alloc)))) (R56.out.keep (by repeat (first | exact Chg.refl _ _ | (with_reducible apply Chg.drew) | (with_reducible apply Chg.alloc)))) (by rw [← HSL.out]; omega)).mono ?_
             rintro e57 w57 ⟨v57, rfl, ho57, hc57⟩
             obtain ⟨A57, c57, hv57, _, hr57⟩ := ow_form ho57
             rw [xorL_length, ← HSL.out] at hv57
             subst hv57
             have R57 := As.mk hr57
             have HB57 : As (Chg NoB wr w57) := ⟨Chg.trans (by repeat (first | (with_reducible exact HB.out) | (with_reducible apply Chg.drew) | (with_reducible apply Chg.alloc))) hc57 (fun _ _ e => e)⟩
             clear ho57 hc57 hr57 HB
             have HB := HB57
             clear HB57)
          | (go_simp
             with_reducible refine (enc16 (HPD.out.keep (by repeat (first | (with_reducible exact HB.out) | (with_reducible apply Chg.drew) | (with_reducible apply Chg.alloc)))) RT_.out (R57.out.keep (by repeat (first | exact Chg.refl _ _ | (with_reducible apply Chg.drew) | (with_reducible apply Chg.alloc)))) HXB.out HXL.out).mono ?_
             rintro e61 w61 ⟨v61, rfl, ho61, hc61⟩
             obtain ⟨g61, c61, hv61, _, _, _⟩ := own_form_pos ho61 (by rw [HEN.out]; omega)
             rw [HEN.out] at hv61
             subst hv61
             have O61 := As.mk (own_lower (base' := wr.heap.size) ho61 (Chg.size (S := NoB) (by repeat (first | (with_reducible exact HB.out) | (with_reducible apply Chg.drew) | (with_reducible apply Chg.alloc)))))
             have HB61 : As (Chg NoB wr w61) := ⟨Chg.trans (by repeat (first | (with_reducible exact HB.out) | (with_reducible apply Chg.drew) | (with_reducible apply Chg.alloc))) hc61 (fun _ _ e => e)⟩
             clear ho61 hc61 HB
             have HB := HB61
             clear HB61))
          all_goals
            go_wp2_with fail
            go_ret
            have hf := HFIN.out
            unfold sOm at hf
            rw [HTW.out, HKK.out, if_neg (by rw [HDRL.out]; omega)] at hf
            rw [← hf]
            have ho := own_lower (base' := w.heap.size) O61.out HCA.out.size
            exact ⟨_, rfl, ho, HCA.out.trans HB.out (fun _ _ e => e)⟩
end Go.Proofs.Ythbgpbaneghmdaa
