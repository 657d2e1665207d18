/- The contract of (*eax).Seal, with tags and nonces of 16 bytes, on nil. -/
import Derived.Test.YthbgpbaneghmdaaCtc
set_option linter.unusedVariables false
set_option linter.unusedSimpArgs false
namespace Go.Proofs.Ythbgpbaneghmdaa
open Go.RowKit V
theorem na_xk (a : Addr) (w : World) : (nilAhead 285 165 (.pointer (some a)) "XORKeyStream").run Try.prog w = .ok (some false) w := by kernel_rfl
theorem me_xk (a : Addr) (w : World) : (method 285 165 (.pointer (some a)) "XORKeyStream").run Try.prog w = .ok (131, .pointer (some a)) w := by kernel_rfl
/-- A text with k bytes of its tag behind it. -/
def tagRow (ct tag : List Int) (k : Nat) : List Int := ct ++ (tag.take k ++ List.replicate (16 - k) 0)
theorem tagRow_zero (ct tag : List Int) : splice (List.replicate (ct.length + 16) 0) 0 ct = tagRow ct tag 0 := by
  unfold splice tagRow
  simp
theorem tagRow_step (ct tag : List Int) (k : Nat) (hk : k < 16) (ht : tag.length = 16) : (tagRow ct tag k).set (ct.length + k) (tag.getD k 0) = tagRow ct tag (k + 1) := by
  unfold tagRow
  have hl : (tag.take k).length = k := by rw [List.length_take]; omega
  have h1 : tag.take (k + 1) = tag.take k ++ [tag.getD k 0] := by
    rw [List.take_succ_eq_append_getElem (by omega)]
    simp [List.getD_eq_getElem?_getD, List.getElem?_eq_getElem (show k < tag.length by omega)]
  have h2 : List.replicate (16 - k) (0 : Int) = 0 :: List.replicate (16 - (k + 1)) 0 := by
    rw [show 16 - k = (16 - (k + 1)) + 1 by omega, List.replicate_succ]
  rw [List.set_append_right _ _ (by omega), show ct.length + k - ct.length = k by omega, List.set_append_right _ _ (by omega), hl, Nat.sub_self, h1, h2, List.set_cons_zero, List.append_assoc]
  rfl
theorem tagRow_end (ct tag : List Int) (ht : tag.length = 16) : tagRow ct tag 16 = ct ++ tag := by
  unfold tagRow
  rw [List.take_of_length_le (by omega)]
  simp
/-- A byte of the tag, as the code reckons it. -/
theorem tag_at {a b c : List Int} (ha : a.length = 16) (hb : b.length = 16) (hc : c.length = 16) (ba : Byt a) (bb : Byt b) (bc : Byt c) (k : Nat) (hk : k < 16) :
    (xorL (xorL a b) c).getD k 0 = Go.bits .xor .u8 (Go.bits .xor .u8 (c.getD k 0) (a.getD k 0)) (b.getD k 0) := by
  have h1 : (xorL (xorL a b) c).getD k 0 = Go.bits .xor .u8 ((xorL a b).getD k 0) (c.getD k 0) := by
    unfold xorL
    rw [tab_getD (by rw [tab_length]; omega), if_pos (by omega)]
  have h2 : (xorL a b).getD k 0 = Go.bits .xor .u8 (a.getD k 0) (b.getD k 0) := by
    unfold xorL
    rw [tab_getD (by omega), if_pos (by omega)]
  have xa := ba.getD k
  have xb := bb.getD k
  have xc := bc.getD k
  rw [h1, h2, bx_comm _ _ (bx_range _ _ xa xb) xc, bx_assoc _ _ _ xc xa xb]
theorem Ctr.lower {w : World} {base base' B X C cc O n : Nat} {cur zs : List Int} (h : Ctr w base B X C cc O n cur zs) (hb : base' ≤ base) : Ctr w base' B X C cc O n cur zs :=
  ⟨h.blk, own_lower h.row hb, own_lower h.out hb, h.xc, h.xo, h.co, h.cl, h.bc⟩
theorem rk_far {k : IntKind} {w w' : World} {S : Nat → Prop} {a : Addr} {xs : List Int} (h : Rk k w (some a) xs) (hc : Chg S w w') (hs : ¬ S a.block) : Rk k w' (some a) xs :=
  h.chg hc (fun ad e _ => by injection e with e; subst e; exact hs)
set_option maxRecDepth 100000 in
set_option maxHeartbeats 4000000 in
theorem seal_any {w : World} {lo hi B E : Nat} {perm sub mask nonce text hdr : List Int} {NA TA HA : Option Addr} {nn nc tn tc hn hc : Nat} (hC : Cph w lo hi B perm sub mask) (hr : RightB perm sub 16) (hm : mask.length = 16) (bs : Byt sub) (bm : Byt mask) (hE : Eax w E B 16 16)
    (rn : Rb w NA nonce) (hnn : nn = nonce.length) (h16 : nn ≤ 16) (bn : Byt nonce) (rt : Rb w TA text) (htn : tn = text.length) (htc : tn ≤ tc) (bt : Byt text) (rh : Rb w HA hdr) (hhn : hn = hdr.length) (bh : Byt hdr) (lt : tn ≤ 1048576) (lh : hn ≤ 1048576) (hhi : hi ≤ w.heap.size) :
    Calls Try.prog 96 #[.pointer (some ⟨E, 0, none⟩), .slice none 0 0, .slice NA nn nc, .slice TA tn tc, .slice HA hn hc] w fun e w' => ∃ g, e = .returned (.slice (some ⟨g, 0, none⟩) (tn + 16 : Nat) (tn + 16 : Nat)) ∧ Own w' w.heap.size 5 .u8 (.slice (some ⟨g, 0, none⟩) (tn + 16) (tn + 16)) (eaxSealL perm sub mask nonce text hdr) ∧ Chg NoB w w' := by
  have CB := As.mk hC
  have HR := As.mk hr
  have HM := As.mk hm
  have HBY := As.mk (And.intro bs (And.intro bm (And.intro bn (And.intro bt bh))))
  have HEX := As.mk hE
  have RN := As.mk rn
  have RT := As.mk rt
  have RH := As.mk rh
  have HNN := As.mk hnn
  have HTN := As.mk htn
  have HHN := As.mk hhn
  have HHI := As.mk hhi
  have hEl := hE.lt
  have x0 := hE.cell 0
  have x1 := hE.cell 1
  have x2 := hE.cell 2
  simp only [List.getElem?_cons_zero, List.getElem?_cons_succ] at x0 x1 x2
  have na := na_xk
  have me := me_xk
  clear hC hr hm bs bm hE rn hnn bn rt htn bt rh hhn bh hhi
  have i1 : ¬ ((16 : Int) < (nn : Int)) := by omega
  have i2 : IntKind.i64.wrap ((tn : Int) + 16) = ((tn + 16 : Nat) : Int) := by rw [IntKind.wrap_i64]; omega
  go_enter Try.func96, Try.ntmps96
  go_wp2_with fail
  refine (sliceForAppend_nil (w := w) (m := tn + 16) (by omega) (by omega)).mono ?_
  rintro e1 w1 ⟨g, rfl, ho1, hc1⟩
  have O1 := As.mk ho1
  have C1 := As.mk hc1
  have HGL := As.mk (own_block_lt ho1 g rfl).2
  have y0 := (HEX.out.chg hc1 (fun e => e)).cell 0
  have y1 := (HEX.out.chg hc1 (fun e => e)).cell 1
  simp only [List.getElem?_cons_zero, List.getElem?_cons_succ] at y0 y1
  clear ho1 hc1 x0 x1 x2 i1 i2
  go_wp2_with fail
  refine (omacT_any (CB.out.keep C1.out) HR.out HM.out HBY.out.1 HBY.out.2.1 (HEX.out.chg C1.out (fun e => e)) (by decide) (RN.out.keep C1.out) HNN.out HBY.out.2.2.1 (by omega) (Nat.le_trans HHI.out C1.out.size)).mono ?_
  rintro e2 w2 ⟨a2, c2, rfl, h1, h2, h3, h4, h5⟩
  have R2 := As.mk h4
  have B2 := As.mk (And.intro h2 h3)
  have C2 := As.mk (C1.out.trans h5 (fun _ _ e => e))
  have O2 := As.mk (own_keep O1.out h5)
  clear h1 h2 h3 h4 h5 y0 y1 O1
  go_wp2_with fail
  refine (omacT_any (CB.out.keep C2.out) HR.out HM.out HBY.out.1 HBY.out.2.1 (HEX.out.chg C2.out (fun e => e)) (by decide) (RH.out.keep C2.out) HHN.out HBY.out.2.2.2.2 (by omega) (Nat.le_trans HHI.out C2.out.size)).mono ?_
  rintro e3 w3 ⟨a3, c3, rfl, h1, h2, h3, h4, h5⟩
  have R3 := As.mk h4
  have B3 := As.mk (And.intro h2 h3)
  have C3 := As.mk (C2.out.trans h5 (fun _ _ e => e))
  have O3 := As.mk (own_keep O2.out h5)
  have R2' := As.mk (R2.out.keep h5)
  have HSZ : As (w1.heap.size ≤ w2.heap.size ∧ w2.heap.size ≤ w3.heap.size ∧ g < w1.heap.size ∧ w.heap.size ≤ g ∧ w.heap.size ≤ w1.heap.size) := ⟨by
    have b1 := own_block_lt O2.out g rfl
    have e1 := B2.out
    exact ⟨by omega, h5.size, HGL.out, b1.1, C1.out.size⟩⟩
  have y0 := (HEX.out.chg C3.out (fun e => e)).cell 0
  have y1 := (HEX.out.chg C3.out (fun e => e)).cell 1
  simp only [List.getElem?_cons_zero, List.getElem?_cons_succ] at y0 y1
  clear h1 h2 h3 h4 h5 R2 O2
  have oNl := omac16 (perm := perm) (sub := sub) HM.out (twk 0 nonce)
  have oHl := omac16 (perm := perm) (sub := sub) HM.out (twk 1 hdr)
  have oNb := omac_byt (perm := perm) HBY.out.1 HBY.out.2.1 (twk 0 nonce)
  have oHb := omac_byt (perm := perm) HBY.out.1 HBY.out.2.1 (twk 1 hdr)
  obtain ⟨ct, hct⟩ : ∃ ct, ct = ctrL (encL perm sub mask) (omacL perm sub mask (twk 0 nonce)) text := ⟨_, rfl⟩
  obtain ⟨oN, hoN⟩ : ∃ oN, oN = omacL perm sub mask (twk 0 nonce) := ⟨_, rfl⟩
  obtain ⟨oH, hoH⟩ : ∃ oH, oH = omacL perm sub mask (twk 1 hdr) := ⟨_, rfl⟩
  rw [← hoN] at R2' oNl oNb hct
  rw [← hoH] at R3 oHl oHb
  have HON := As.mk (And.intro hoN (And.intro oNl oNb))
  have HOH := As.mk (And.intro hoH (And.intro oHl oHb))
  have HCT := As.mk hct
  clear hct hoN hoH oNl oNb oHl oHb
  have kcut := cut_to (P := Try.prog) 22 5 Try.underlying22 size8 (some ⟨g, 0, none⟩) (tn + 16) (tn + 16) (tn : Int) .i64 tn rfl (by omega)
  go_wp2_with fail
  refine (newCtr_any (CB.out.keep C3.out) HM.out a2 c2 oN HON.out.2.1 HON.out.2.2 R2'.out).mono ?_
  rintro e4 w4 ⟨X, C, cc, O, rfl, h1, h2, h3, h4, h5⟩
  have X4 := As.mk (h1.lower C3.out.size)
  have G4 := As.mk (And.intro h2 (And.intro h3 h4))
  have C4 := As.mk (C3.out.trans h5 (fun _ _ e => e))
  have O4 := As.mk (own_keep O3.out h5)
  have R24 := As.mk (R2'.out.keep h5)
  have R34 := As.mk (R3.out.keep h5)
  clear h1 h2 h3 h4 h5 R2' R3 O3
  have HGF : As (¬ CtrF X C O g ∧ (∀ b, CtrF X C O b ∨ b = g → w.heap.size ≤ b) ∧ ¬ (CtrF X C O a2.block ∨ a2.block = g) ∧ ¬ (CtrF X C O a3.block ∨ a3.block = g)) := ⟨by
    have h1 := G4.out
    have h2 := HSZ.out
    have h3 := B2.out
    have h4 := B3.out
    have h5 := C3.out.size
    refine ⟨fun e => ?_, fun b e => ?_, fun e => ?_, fun e => ?_⟩
    · rcases e with e | e | e <;> omega
    · rcases e with (e | e | e) | e <;> omega
    · rcases e with (e | e | e) | e <;> omega
    · rcases e with (e | e | e) | e <;> omega⟩
  go_wp2_with fail
  refine (xorKey_any (G := g) (N := tn + 16) (cap := tn + 16) (gs := List.replicate (tn + 16) 0) (CB.out.keep C4.out) HR.out HM.out HBY.out.1 HBY.out.2.1 X4.out O4.out (Nat.le_refl tn) (Nat.le_add_right tn 16) (Nat.le_add_right tn 16) htc HTN.out HBY.out.2.2.2.1 (by omega)
    (((Rf.of RT.out (Nat.le_refl _)).keep C4.out).mono (fun b _ hb => ⟨fun e => Nat.lt_irrefl _ (Nat.lt_of_lt_of_le hb (HGF.out.2.1 b (.inl e))), fun e => Nat.lt_irrefl _ (Nat.lt_of_lt_of_le hb (HGF.out.2.1 b (.inr e)))⟩)) (fun b h1 h2 e => by have := HGF.out.2.1 b e; have := HHI.out; omega) HGF.out.1).mono ?_
  rintro e5 w5 ⟨rfl, ho5, hc5⟩
  rw [← HCT.out] at ho5
  have hctl : ct.length = tn := by rw [HCT.out, ctrL_length, HTN.out]
  have hz0 := tagRow_zero ct (eaxTagL perm sub mask nonce ct hdr)
  rw [hctl] at hz0
  rw [hz0] at ho5
  have HCL := As.mk hctl
  have O5 := As.mk ho5
  have C5 := As.mk (C4.out.trans hc5 (fun i hi e => absurd (HGF.out.2.1 i e) (by omega)))
  have R25 := As.mk (rk_far R24.out hc5 HGF.out.2.2.1)
  have R35 := As.mk (rk_far R34.out hc5 HGF.out.2.2.2)
  have HCB : As (Byt ct) := ⟨by rw [HCT.out]; exact ctrL_byt (fun x => encL_byt x HBY.out.1 HBY.out.2.1) HBY.out.2.2.2.1⟩
  have hctt : (tagRow ct (eaxTagL perm sub mask nonce ct hdr) 0).take tn = ct := by unfold tagRow; rw [List.take_append_of_le_length (by omega), List.take_of_length_le (by omega)]
  have RC5 : As (Rb w5 (some ⟨g, 0, none⟩) ct) := ⟨by have h := (own_reads ho5).take_ tn; rw [hctt] at h; exact h⟩
  clear ho5 hc5 hctl hz0 hctt X4 O4 R24 R34 y0 y1 kcut
  go_wp2_with fail
  refine (omacT_any (CB.out.keep C5.out) HR.out HM.out HBY.out.1 HBY.out.2.1 (HEX.out.chg C5.out (fun e => e)) (by decide) RC5.out HCL.out.symm HCB.out (by omega) (Nat.le_trans HHI.out C5.out.size)).mono ?_
  rintro e6 w6 ⟨a6, c6, rfl, h1, h2, h3, h4, h5⟩
  have B6 := As.mk h2
  have C6 := As.mk (C5.out.trans h5 (fun _ _ e => e))
  have O6 := As.mk (own_keep O5.out h5)
  have R26 := As.mk (R25.out.keep h5)
  have R36 := As.mk (R35.out.keep h5)
  have oCl := omac16 (perm := perm) (sub := sub) HM.out (twk 2 ct)
  have oCb := omac_byt (perm := perm) HBY.out.1 HBY.out.2.1 (twk 2 ct)
  obtain ⟨oC, hoC⟩ : ∃ oC, oC = omacL perm sub mask (twk 2 ct) := ⟨_, rfl⟩
  rw [← hoC] at h4 oCl oCb
  have R66 := As.mk h4
  have HOC := As.mk (And.intro oCl oCb)
  have HTG : As (eaxTagL perm sub mask nonce ct hdr = xorL (xorL oN oH) oC) := ⟨by rw [HON.out.1, HOH.out.1, hoC]; rfl⟩
  have HA6 : As (a6.block ≠ g) := ⟨by have h := own_block_lt O5.out g rfl; omega⟩
  clear h1 h2 h3 h4 h5 hoC oCl oCb R25 R35 O5 RC5
  obtain ⟨A7, kcut7, hA7, _⟩ := cut_from (P := Try.prog) 22 5 Try.underlying22 size8 (some ⟨g, 0, none⟩) (tn + 16) (tn + 16) (tn : Int) .i64 16 16 (by omega) (by omega) (by omega) (Nat.le_refl _)
  have hA7' : A7 = some ⟨g, tn, none⟩ := by rw [hA7 (by omega)]; simp only [Option.map_some, add_lit0, Int.toNat_natCast]
  subst hA7'
  clear hA7
  go_wp2_with fail
  obtain ⟨tag, htag⟩ : ∃ tag, tag = eaxTagL perm sub mask nonce ct hdr := ⟨_, rfl⟩
  rw [← htag] at O6 HTG
  have HTA := As.mk htag
  have HTL : As (tag.length = 16) := ⟨by rw [htag]; exact eaxTagL_length HM.out _ _ _⟩
  clear htag
  go_loopw [19] (fun iv wr => ∃ k : Nat, k ≤ 16 ∧ iv = .int .i64 k ∧ As (Own wr w.heap.size 5 .u8 (.slice (some ⟨g, 0, none⟩) (tn + 16) (tn + 16)) (tagRow ct tag k)) ∧ As (Chg (fun b => b = g) w6 wr)) (fun iv _ => 16 - (intOf iv).toNat)
  case atStart => exact ⟨0, Nat.zero_le _, rfl, O6, ⟨Chg.refl _ _⟩⟩
  case round =>
    obtain ⟨k, hk, rfl, HO, HC⟩ := hrel
    have hgw : w.heap.size ≤ g := HSZ.out.2.2.2.1
    have y1 := ((HEX.out.chg C6.out (fun e => e)).chg HC.out (fun e => by have : E = g := e; omega)).cell 1
    simp only [List.getElem?_cons_zero, List.getElem?_cons_succ] at y1
    by_cases hlt : k < 16
    · have hlz : (k : Int) < 16 := by omega
      have e1 : IntKind.i64.wrap ((k : Int) + 1) = ((k + 1 : Nat) : Int) := by rw [IntKind.wrap_i64]; omega
      obtain ⟨q6, eq6, hc6⟩ := (rk_far R66.out HC.out (fun e => HA6.out e)).at_ (k : Int) (by omega) (by rw [HOC.out.1]; omega)
      obtain ⟨q2, eq2, hc2⟩ := (rk_far R26.out HC.out (fun e => HGF.out.2.2.1 (.inr e))).at_ (k : Int) (by omega) (by rw [HON.out.2.1]; omega)
      obtain ⟨q3, eq3, hc3⟩ := (rk_far R36.out HC.out (fun e => HGF.out.2.2.2 (.inr e))).at_ (k : Int) (by omega) (by rw [HOH.out.2.1]; omega)
      injection eq6 with eq6
      injection eq2 with eq2
      injection eq3 with eq3
      subst eq6
      subst eq2
      subst eq3
      simp only [Int.toNat_natCast, rd_nat] at hc6 hc2 hc3
      have hrl : (tagRow ct tag k).length = tn + 16 := (own_len HO.out).symm
      obtain ⟨hcg, fzg⟩ := own_at HO.out (tn + k) (by omega)
      have had : (⟨g, tn, none⟩ : Addr).add k = ⟨g, tn + k, none⟩ := add_lit g tn k
      obtain ⟨zv, hzv⟩ : ∃ zv, zv = rd (tagRow ct tag k) ((tn + k : Nat) : Int) := ⟨_, rfl⟩
      have HV : As (Go.bits .xor .u8 (Go.bits .xor .u8 (oC.getD k 0) (oN.getD k 0)) (oH.getD k 0) = tag.getD k 0) := ⟨by rw [HTG.out, tag_at HON.out.2.1 HOH.out.2.1 HOC.out.1 HON.out.2.2 HOH.out.2.2 HOC.out.2 k hlt]⟩
      have HST := As.mk (tagRow_step ct tag k hlt HTL.out)
      clear hrl
      go_wp2_with fail
      go_still_tail 17, (by kernel_rfl)
      change wpList _ _ _ _ _ (World.drew wr)
      go_wp2_with fail
      go_roundw
      case rel =>
        have h := own_set HO.out (tn + k) (Go.bits .xor .u8 (Go.bits .xor .u8 (oC.getD k 0) (oN.getD k 0)) (oH.getD k 0))
        rw [show (tagRow ct tag k).set (tn + k) (Go.bits .xor .u8 (Go.bits .xor .u8 (oC.getD k 0) (oN.getD k 0)) (oH.getD k 0)) = tagRow ct tag (k + 1) from by rw [HV.out, ← HCL.out]; exact HST.out] at h
        exact ⟨k + 1, by omega, by go_num, ⟨own_keep h ((Chg.refl NoB _).drew)⟩, ⟨(HC.out.setCell (p := ⟨g, tn + k, none⟩) _ (fun _ => rfl)).drew⟩⟩
      case measure => simp [intOf]; omega
    · have hlz : ¬ (k : Int) < 16 := by omega
      have hk16 : k = 16 := by omega
      have HFIN : As (tagRow ct tag k = eaxSealL perm sub mask nonce text hdr) := ⟨by
        rw [hk16, tagRow_end _ _ HTL.out, HTA.out]
        unfold eaxSealL eaxCt
        rw [HCT.out, HON.out.1]⟩
      clear hk16
      go_wp2_with fail
      go_ret
      exact ⟨g, rfl, by rw [← HFIN.out]; exact HO.out, C6.out.trans HC.out (fun i hi e => by have h1 : i = g := e; omega)⟩
end Go.Proofs.Ythbgpbaneghmdaa
