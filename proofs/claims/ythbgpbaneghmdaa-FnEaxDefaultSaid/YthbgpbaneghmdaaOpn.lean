/- The contract of (*eax).Open, with tags and nonces of 16 bytes, on nil. -/
import Derived.Test.YthbgpbaneghmdaaSeal
import Derived.Test.YthbgpbaneghmdaaEaxO
import Derived.Deep.RegionLaw
set_option linter.unusedVariables false
set_option linter.unusedSimpArgs false
namespace Go.Proofs.Ythbgpbaneghmdaa
open Go.RowKit V
/-- An error that is none of nil. -/
def SomeErr (w : World) (e : Ending) (w' : World) : Prop := ∃ b, e = .returned (.iface 138 (.pointer (some b))) ∧ Chg NoB w w'
theorem errNew_any (s : ByteArray) (w : World) : Calls Try.prog 70 #[.string s] w (SomeErr w) := by
  go_enter Try.func70, Try.ntmps70
  go_wp2_with fail
  go_ret
  exact ⟨_, rfl, (Chg.refl _ _).alloc _⟩
theorem eaxErr_any (s : ByteArray) (w : World) (hs : (s.size : Int) ≤ 8388608) : Calls Try.prog 58 #[.string s] w (SomeErr w) := by
  have hadd : ∀ W : World, (Op.stringOp .add ⟨#[99, 114, 121, 112, 116, 111, 47, 101, 97, 120, 58, 32]⟩ s).run Try.prog W = .ok (.string (⟨#[99, 114, 121, 112, 116, 111, 47, 101, 97, 120, 58, 32]⟩ ++ s)) W := fun W => run_string_add W _ s (by decide) hs
  clear hs
  go_enter Try.func58, Try.ntmps58
  go_wp2_with fail
  refine (errNew_any _ _).mono ?_
  rintro e1 w1 ⟨b1, rfl, hc1⟩
  go_wp2_with fail
  go_ret
  exact ⟨b1, rfl, hc1⟩
def OpnOf (w : World) (r : Option (List Int)) (e : Ending) (w' : World) : Prop :=
  Chg NoB w w' ∧ match r with
  | none => ∃ b, e = .returned (.tuple #[.slice none 0 0, .iface 138 (.pointer (some b))])
  | some xs => ∃ (g n c : Nat), e = .returned (.tuple #[.slice (some ⟨g, 0, none⟩) n c, .nilIface]) ∧ n = xs.length ∧ Rb w' (some ⟨g, 0, none⟩) xs
set_option maxRecDepth 100000 in
set_option maxHeartbeats 4000000 in
theorem open_any {w : World} {lo hi B E : Nat} {perm sub mask nonce text hdr : List Int} {NA TA HA : Option Addr} {nn nc tn tc hn hc : Nat} (hC : Cph w lo hi B perm sub mask) (hr : RightB perm sub 16) (hm : mask.length = 16) (bs : Byt sub) (bm : Byt mask) (hE : Eax w E B 16 16)
    (rn : Rb w NA nonce) (hnn : nn = nonce.length) (h16 : nn ≤ 16) (bn : Byt nonce) (rt : Rb w TA text) (htn : tn = text.length) (htc : tn ≤ tc) (bt : Byt text) (rh : Rb w HA hdr) (hhn : hn = hdr.length) (bh : Byt hdr) (lt : tn ≤ 1048576) (lh : hn ≤ 1048576) (hhi : hi ≤ w.heap.size) :
    Calls Try.prog 94 #[.pointer (some ⟨E, 0, none⟩), .slice none 0 0, .slice NA nn nc, .slice TA tn tc, .slice HA hn hc] w (OpnOf w (eaxOpenL perm sub mask nonce text hdr)) := by
  have CB := As.mk hC
  have HR := As.mk hr
  have HM := As.mk hm
  have HBY := As.mk (And.intro bs (And.intro bm (And.intro bn (And.intro bt bh))))
  have HEX := As.mk hE
  have RN := As.mk rn
  have RT := As.mk rt
  have RH := As.mk rh
  have HNN := As.mk hnn
  have HTN := As.mk htn
  have HHN := As.mk hhn
  have HHI := As.mk hhi
  have x0 := hE.cell 0
  have x1 := hE.cell 1
  have x2 := hE.cell 2
  simp only [List.getElem?_cons_zero, List.getElem?_cons_succ] at x0 x1 x2
  have na := na_xk
  have me := me_xk
  clear hC hr hm bs bm hE rn hnn bn rt htn bt rh hhn bh hhi
  have i1 : ¬ ((16 : Int) < (nn : Int)) := by omega
  by_cases hlt : tn < 16
  · have i2 : (tn : Int) < 16 := by omega
    have HNO : As (eaxOpenL perm sub mask nonce text hdr = none) := ⟨by unfold eaxOpenL; rw [if_neg (fun h => by have := HTN.out; omega)]⟩
    go_enter Try.func94, Try.ntmps94
    go_wp2_with fail
    refine (eaxErr_any _ _ (by decide)).mono ?_
    rintro e1 w1 ⟨b1, rfl, hc1⟩
    have C1 := As.mk hc1
    clear hc1
    go_wp2_with fail
    go_ret2
    rw [HNO.out]
    exact ⟨C1.out, b1, rfl⟩
  · have i2 : ¬ (tn : Int) < 16 := by omega
    obtain ⟨sp, hsp⟩ : ∃ sp, sp + 16 = tn := ⟨tn - 16, by omega⟩
    have i3 : IntKind.i64.wrap ((tn : Int) - 16) = (sp : Int) := by rw [IntKind.wrap_i64]; omega
    have HSP := As.mk hsp
    clear hsp
    go_enter Try.func94, Try.ntmps94
    go_wp2_with fail
    refine (omacT_any CB.out HR.out HM.out HBY.out.1 HBY.out.2.1 HEX.out (by decide) RN.out HNN.out HBY.out.2.2.1 (by omega) HHI.out).mono ?_
    rintro e2 w2 ⟨a2, c2, rfl, h1, h2, h3, h4, h5⟩
    have R2 := As.mk h4
    have B2 := As.mk (And.intro h2 h3)
    have C2 := As.mk h5
    clear h1 h2 h3 h4 h5 x0 x1 x2 i1 i2 i3
    go_wp2_with fail
    refine (omacT_any (CB.out.keep C2.out) HR.out HM.out HBY.out.1 HBY.out.2.1 (HEX.out.chg C2.out (fun e => e)) (by decide) (RH.out.keep C2.out) HHN.out HBY.out.2.2.2.2 (by omega) (Nat.le_trans HHI.out C2.out.size)).mono ?_
    rintro e3 w3 ⟨a3, c3, rfl, h1, h2, h3, h4, h5⟩
    have R3 := As.mk h4
    have B3 := As.mk (And.intro h2 h3)
    have C3 := As.mk (C2.out.trans h5 (fun _ _ e => e))
    have R2' := As.mk (R2.out.keep h5)
    have S3 := As.mk h5.size
    clear h1 h2 h3 h4 h5 R2
    have kcut := cut_to (P := Try.prog) 22 5 Try.underlying22 size8 TA tn tc (sp : Int) .i64 sp rfl (by have := HSP.out; omega)
    have HCT : As ((text.take sp).length = sp) := ⟨by rw [List.length_take]; have := HSP.out; have := HTN.out; omega⟩
    go_wp2_with fail
    refine (omacT_any (CB.out.keep C3.out) HR.out HM.out HBY.out.1 HBY.out.2.1 (HEX.out.chg C3.out (fun e => e)) (by decide) ((RT.out.keep C3.out).take_ sp) HCT.out.symm (HBY.out.2.2.2.1.take sp) (by have := HSP.out; omega) (Nat.le_trans HHI.out C3.out.size)).mono ?_
    rintro e4 w4 ⟨a4, c4, rfl, h1, h2, h3, h4, h5⟩
    have R44 := As.mk h4
    have B4 := As.mk (And.intro h2 h3)
    have C4 := As.mk (C3.out.trans h5 (fun _ _ e => e))
    have R24 := As.mk (R2'.out.keep h5)
    have R34 := As.mk (R3.out.keep h5)
    have S4 := As.mk h5.size
    have y0 := (HEX.out.chg C4.out (fun e => e)).cell 0
    have y1 := (HEX.out.chg C4.out (fun e => e)).cell 1
    simp only [List.getElem?_cons_zero, List.getElem?_cons_succ] at y0 y1
    clear h1 h2 h3 h4 h5 R2' R3
    have oNl := omac16 (perm := perm) (sub := sub) HM.out (twk 0 nonce)
    have oHl := omac16 (perm := perm) (sub := sub) HM.out (twk 1 hdr)
    have oCl := omac16 (perm := perm) (sub := sub) HM.out (twk 2 (text.take sp))
    have oNb := omac_byt (perm := perm) HBY.out.1 HBY.out.2.1 (twk 0 nonce)
    have oHb := omac_byt (perm := perm) HBY.out.1 HBY.out.2.1 (twk 1 hdr)
    have oCb := omac_byt (perm := perm) HBY.out.1 HBY.out.2.1 (twk 2 (text.take sp))
    obtain ⟨oN, hoN⟩ : ∃ oN, oN = omacL perm sub mask (twk 0 nonce) := ⟨_, rfl⟩
    obtain ⟨oH, hoH⟩ : ∃ oH, oH = omacL perm sub mask (twk 1 hdr) := ⟨_, rfl⟩
    obtain ⟨oC, hoC⟩ : ∃ oC, oC = omacL perm sub mask (twk 2 (text.take sp)) := ⟨_, rfl⟩
    have HTG : As (eaxTagL perm sub mask nonce (text.take sp) hdr = xorL (xorL oN oH) oC) := ⟨by rw [hoN, hoH, hoC]; rfl⟩
    rw [← hoN] at R24 oNl oNb
    rw [← hoH] at R34 oHl oHb
    rw [← hoC] at R44 oCl oCb
    have HON := As.mk (And.intro hoN (And.intro oNl oNb))
    have HOH := As.mk (And.intro oHl oHb)
    have HOC := As.mk (And.intro oCl oCb)
    clear hoN hoH hoC oNl oNb oHl oHb oCl oCb
    obtain ⟨tag, htag⟩ : ∃ tag, tag = eaxTagL perm sub mask nonce (text.take sp) hdr := ⟨_, rfl⟩
    have HTL : As (tag.length = 16) := ⟨by rw [htag]; exact eaxTagL_length HM.out _ _ _⟩
    have HTA := As.mk htag
    have HTB : As (Byt tag) := ⟨by rw [htag, HTG.out]; exact xorL_byt (xorL_byt HON.out.2.2 HOH.out.2) HOC.out.2⟩
    rw [← htag] at HTG
    clear htag kcut
    go_wp2_with ((with_reducible refine gate (N := 59) rfl ?_); refine wpList_make_k rfl _ 22 rfl 5 .u8 1 Try.underlying22 info8 (by decide) 16 _ rfl rfl (by decide) ?_; intro w5 g5 hg5 ho5 hc5 hz5; have G5 := As.mk hg5.out; have O5 := As.mk ho5; have C5 := As.mk hc5; clear hg5 ho5 hc5 hz5 y0 y1)
    have O50 : As (Own w5 w4.heap.size 5 .u8 (.slice (some ⟨g5, 0, none⟩) 16 16) (tagRow [] tag 0)) := ⟨O5.out⟩
    have R25 := As.mk (R24.out.keep C5.out)
    have R35 := As.mk (R34.out.keep C5.out)
    have R45 := As.mk (R44.out.keep C5.out)
    have CW5 := As.mk (C4.out.trans C5.out (fun _ _ e => e))
    have HNE : As (a2.block ≠ g5 ∧ a3.block ≠ g5 ∧ a4.block ≠ g5 ∧ w.heap.size ≤ g5) := ⟨by
      have h1 := B2.out
      have h2 := B3.out
      have h3 := B4.out
      have h4 := G5.out
      have h5 := S3.out
      have h6 := S4.out
      have h7 := C4.out.size
      omega⟩
    clear O5 R24 R34 R44
    go_loopw [17] (fun iv wr => ∃ k : Nat, k ≤ 16 ∧ iv = .int .i64 k ∧ As (Own wr w4.heap.size 5 .u8 (.slice (some ⟨g5, 0, none⟩) 16 16) (tagRow [] tag k)) ∧ As (Chg (fun b => b = g5) w5 wr)) (fun iv _ => 16 - (intOf iv).toNat)
    case atStart => exact ⟨0, Nat.zero_le _, rfl, O50, ⟨Chg.refl _ _⟩⟩
    case round =>
      obtain ⟨k, hk, rfl, HO, HC⟩ := hrel
      have CWR : As (Chg NoB w wr) := ⟨CW5.out.trans HC.out (fun i hi e => by have h1 : i = g5 := e; have := HNE.out.2.2.2; omega)⟩
      have y0 := (HEX.out.chg CWR.out (fun e => e)).cell 0
      have y1 := (HEX.out.chg CWR.out (fun e => e)).cell 1
      simp only [List.getElem?_cons_zero, List.getElem?_cons_succ] at y0 y1
      by_cases hlt2 : k < 16
      · have hlz : (k : Int) < 16 := by omega
        have e1 : IntKind.i64.wrap ((k : Int) + 1) = ((k + 1 : Nat) : Int) := by rw [IntKind.wrap_i64]; omega
        obtain ⟨q6, eq6, hc6⟩ := (rk_far R45.out HC.out (fun e => HNE.out.2.2.1 e)).at_ (k : Int) (by omega) (by rw [HOC.out.1]; omega)
        obtain ⟨q2, eq2, hc2⟩ := (rk_far R25.out HC.out (fun e => HNE.out.1 e)).at_ (k : Int) (by omega) (by rw [HON.out.2.1]; omega)
        obtain ⟨q3, eq3, hc3⟩ := (rk_far R35.out HC.out (fun e => HNE.out.2.1 e)).at_ (k : Int) (by omega) (by rw [HOH.out.1]; omega)
        injection eq6 with eq6
        injection eq2 with eq2
        injection eq3 with eq3
        subst eq6
        subst eq2
        subst eq3
        simp only [Int.toNat_natCast, rd_nat] at hc6 hc2 hc3
        have hrl : (tagRow [] tag k).length = 16 := (own_len HO.out).symm
        obtain ⟨hcg, fzg⟩ := own_at HO.out k (by omega)
        obtain ⟨zv, hzv⟩ : ∃ zv, zv = rd (tagRow [] tag k) (k : Int) := ⟨_, rfl⟩
        have HV : As (Go.bits .xor .u8 (Go.bits .xor .u8 (oC.getD k 0) (oN.getD k 0)) (oH.getD k 0) = tag.getD k 0) := ⟨by rw [HTG.out, tag_at HON.out.2.1 HOH.out.1 HOC.out.1 HON.out.2.2 HOH.out.2 HOC.out.2 k hlt2]⟩
        have HST : As ((tagRow [] tag k).set k (tag.getD k 0) = tagRow [] tag (k + 1)) := ⟨by have h := tagRow_step [] tag k hlt2 HTL.out; rwa [List.length_nil, Nat.zero_add] at h⟩
        clear hrl
        go_wp2_with fail
        go_still_tail 17, (by kernel_rfl)
        change wpList _ _ _ _ _ (World.drew wr)
        go_wp2_with fail
        go_roundw
        case rel =>
          have h := own_set HO.out k (Go.bits .xor .u8 (Go.bits .xor .u8 (oC.getD k 0) (oN.getD k 0)) (oH.getD k 0))
          rw [show (tagRow [] tag k).set k (Go.bits .xor .u8 (Go.bits .xor .u8 (oC.getD k 0) (oN.getD k 0)) (oH.getD k 0)) = tagRow [] tag (k + 1) from by rw [HV.out]; exact HST.out] at h
          exact ⟨k + 1, by omega, by go_num, ⟨own_keep h ((Chg.refl NoB _).drew)⟩, ⟨(HC.out.setCell (p := ⟨g5, k, none⟩) _ (fun _ => rfl)).drew⟩⟩
        case measure => simp [intOf]; omega
      · have hlz : ¬ (k : Int) < 16 := by omega
        have hk16 : k = 16 := by omega
        have RTG : As (Rb wr (some ⟨g5, 0, none⟩) tag) := ⟨by have h := own_reads HO.out; rw [hk16, tagRow_end _ _ HTL.out, List.nil_append] at h; exact h⟩
        clear hk16
        obtain ⟨A8, kcut8, hA8, hR8⟩ := cut_from (P := Try.prog) 22 5 Try.underlying22 size8 TA tn tc (sp : Int) .i64 16 (tc - sp) (by omega) (by have := HSP.out; omega) (by have := HSP.out; omega) htc
        have e8 := hA8 (by omega)
        simp only [Int.toNat_natCast] at e8
        clear hA8
        have RT8 : As (Rb wr A8 (text.drop sp)) := ⟨by have h := hR8 wr .u8 text HTN.out.symm (RT.out.keep CWR.out); rw [Int.toNat_natCast] at h; exact h⟩
        have HDL : As (16 = (text.drop sp).length) := ⟨by rw [List.length_drop]; have := HSP.out; have := HTN.out; omega⟩
        have HR2 := As.mk (rk_far R25.out HC.out (fun e => HNE.out.1 e))
        clear hR8
        subst e8
        go_wp2_with fail
        refine (ctc_any (Option.map (fun x => x.add sp) TA) 16 (tc - sp) (text.drop sp) (some ⟨g5, 0, none⟩) 16 tag _ HDL.out HTL.out.symm RT8.out RTG.out (HBY.out.2.2.2.1.drop sp) HTB.out).mono ?_
        rintro e7 w7 ⟨rfl, m7, rfl⟩
        by_cases heq : text.drop sp = tag
        · rw [if_pos heq]
          have HYE : As (eaxOpenL perm sub mask nonce text hdr = some (eaxCt perm sub mask nonce (text.take sp))) := ⟨by
            unfold eaxOpenL
            have h1 : text.length - 16 = sp := by have := HSP.out; have := HTN.out; omega
            rw [h1, if_pos ⟨by have := HSP.out; have := HTN.out; omega, by rw [← HTA.out]; exact heq.symm⟩]⟩
          clear heq y1
          have C8 := As.mk (CWR.out.drewN m7)
          clear y0
          go_wp2_with fail
          refine (sliceForAppend_nil (w := wr.drewN m7) (m := tn) (by omega) (by omega)).mono ?_
          rintro e9 w9 ⟨g, rfl, ho9, hc9⟩
          have C9 := As.mk (C8.out.trans hc9 (fun _ _ e => e))
          have HGB := As.mk (own_block_lt ho9 g rfl)
          have O9 := As.mk (own_lower ho9 C8.out.size)
          have R29 := As.mk ((HR2.out.drewN m7).keep hc9)
          have y0 := (HEX.out.chg C9.out (fun e => e)).cell 0
          simp only [List.getElem?_cons_zero, List.getElem?_cons_succ] at y0
          have HZ8 := As.mk C8.out.size
          clear ho9 hc9
          go_wp2_with fail
          refine (newCtr_any (CB.out.keep C9.out) HM.out a2 c2 oN HON.out.2.1 HON.out.2.2 R29.out).mono ?_
          rintro e10 w10 ⟨X, C, cc, O, rfl, h1, h2, h3, h4, h5⟩
          have X10 := As.mk (h1.lower C9.out.size)
          have C10 := As.mk (C9.out.trans h5 (fun _ _ e => e))
          have O10 := As.mk (own_keep O9.out h5)
          have HGF : As (¬ CtrF X C O g ∧ (∀ b, CtrF X C O b ∨ b = g → w.heap.size ≤ b)) := ⟨by
            have q1 := HGB.out
            have q2 := HZ8.out
            have q3 := C9.out.size
            refine ⟨fun e => ?_, fun b e => ?_⟩
            · rcases e with e | e | e <;> omega
            · rcases e with (e | e | e) | e <;> omega⟩
          have kcut := cut_to (P := Try.prog) 22 5 Try.underlying22 size8 TA tn tc (sp : Int) .i64 sp rfl (by have := HSP.out; omega)
          have kcutg := cut_to (P := Try.prog) 22 5 Try.underlying22 size8 (some ⟨g, 0, none⟩) tn tn (sp : Int) .i64 sp rfl (by have := HSP.out; omega)
          have hsc : sp ≤ tc := by have := HSP.out; omega
          have hst : sp ≤ tn := by have := HSP.out; omega
          clear h1 h2 h3 h4 h5 y0 O9 R29
          have HRT : As (Rf (fun b => ¬ CtrF X C O b ∧ b ≠ g) w10 TA (text.take sp)) := ⟨((Rf.of (RT.out.take_ sp) (Nat.le_refl _)).keep C10.out).mono (fun b _ hb => ⟨fun e => Nat.lt_irrefl _ (Nat.lt_of_lt_of_le hb (HGF.out.2 b (.inl e))), fun e => Nat.lt_irrefl _ (Nat.lt_of_lt_of_le hb (HGF.out.2 b (.inr e)))⟩)⟩
          have HAP : As (∀ b, lo ≤ b → b < hi → ¬ (CtrF X C O b ∨ b = g)) := ⟨fun b h1 h2 e => by have := HGF.out.2 b e; have := HHI.out; omega⟩
          go_upto_region 18 with fail
          go_region_law (first
          | (go_simp
             with_reducible refine (xorKey_any (G := g) (N := tn) (cap := tn) (dn := tn) (dc := tn) (sn := sp) (sc := tc) (gs := List.replicate tn 0) (text := text.take sp) (CB.out.keep C10.out.drew) HR.out HM.out HBY.out.1 HBY.out.2.1 (X10.out.keep (Chg.refl NoB w10).drew) (own_keep O10.out (Chg.refl NoB w10).drew) hst (Nat.le_refl tn) hst hsc HCT.out.symm (HBY.out.2.2.2.1.take sp) (by omega)
               (HRT.out.keep (Chg.refl NoB w10).drew) HAP.out HGF.out.1).mono ?_
             rintro e11 w11 ⟨rfl, ho11, hc11⟩
             have O11 := As.mk ho11
             have C11 := As.mk (C10.out.drew.trans hc11 (fun i hi e => absurd (HGF.out.2 i e) (by omega)))
             clear ho11 hc11))
          all_goals
            go_wp2_with fail
            go_ret2
            rw [HYE.out]
            have hcl : (ctrL (encL perm sub mask) oN (text.take sp)).length = sp := by rw [ctrL_length, HCT.out]
            have hrd := (own_reads O11.out).take_ sp
            have hsp0 : (splice (List.replicate tn (0 : Int)) 0 (ctrL (encL perm sub mask) oN (text.take sp))).take sp = ctrL (encL perm sub mask) oN (text.take sp) := by
              unfold splice
              rw [List.take_zero, List.nil_append, List.take_append_of_le_length (by omega), List.take_of_length_le (by omega)]
            rw [hsp0] at hrd
            unfold eaxCt
            rw [← HON.out.1]
            exact ⟨C11.out, g, sp, tn, rfl, hcl.symm, hrd⟩
        · rw [if_neg heq]
          have HNO : As (eaxOpenL perm sub mask nonce text hdr = none) := ⟨by
            unfold eaxOpenL
            have h1 : text.length - 16 = sp := by have := HSP.out; have := HTN.out; omega
            rw [h1, if_neg (fun h => heq (by rw [HTA.out]; exact h.2.symm))]⟩
          clear heq
          go_wp2_with fail
          refine (eaxErr_any _ _ (by decide)).mono ?_
          rintro e1 w1 ⟨b1, rfl, hc1⟩
          have C1 := As.mk ((CWR.out.drewN m7).trans hc1 (fun _ _ e => e))
          clear hc1
          go_wp2_with fail
          go_ret2
          rw [HNO.out]
          exact ⟨C1.out, b1, rfl⟩
end Go.Proofs.Ythbgpbaneghmdaa
