/- The contracts of (*eax).omacT, eax.ZzOmac, impl.EaxOmac. -/
import Derived.Test.YthbgpbaneghmdaaOmac2
set_option linter.unusedVariables false
set_option linter.unusedSimpArgs false
namespace Go.Proofs.Ythbgpbaneghmdaa
open Go.RowKit V
def twk (t : Int) (text : List Int) : List Int := (List.replicate 16 0).set 15 t ++ text
theorem twk_length (t : Int) (text : List Int) : (twk t text).length = 16 + text.length := by unfold twk; rw [List.length_append, List.length_set, List.length_replicate]
theorem twk_byt {t : Int} {text : List Int} (h : 0 ≤ t ∧ t ≤ 255) (ht : Byt text) : Byt (twk t text) := (set_byt (zeros_byt 16) _ h).append ht
set_option maxRecDepth 100000 in
set_option maxHeartbeats 1000000 in
theorem omacT_any {w : World} {lo hi B E : Nat} {tg nn t : Int} {perm sub mask text : List Int} {TA : Option Addr} {tn tc : Nat} (hC : Cph w lo hi B perm sub mask) (hr : RightB perm sub 16) (hm : mask.length = 16) (bs : Byt sub) (bm : Byt mask) (hE : Eax w E B tg nn)
    (ht : 0 ≤ t ∧ t ≤ 255) (rt : Rb w TA text) (htn : tn = text.length) (bt : Byt text) (hl : tn ≤ 4294967296) (hhi : hi ≤ w.heap.size) :
    Calls Try.prog 49 #[.pointer (some ⟨E, 0, none⟩), .int .u8 t, .slice TA tn tc] w (GivesR NoB w (omacL perm sub mask (twk t text))) := by
  have CB := As.mk hC
  have HR := As.mk hr
  have HM := As.mk hm
  have HBY := As.mk (And.intro bs (And.intro bm bt))
  have HEX := As.mk hE
  have RT := As.mk rt
  have HN := As.mk htn
  have HHI := As.mk hhi
  have HT := As.mk ht
  have na := na_bs
  have me := me_bs
  have x0 := hE.cell 0
  simp only [List.getElem?_cons_zero, List.getElem?_cons_succ] at x0
  have HL16 : As (((List.replicate 16 (0 : Int)).set 15 t).length = 16) := ⟨by rw [List.length_set, List.length_replicate]⟩
  clear hC hr hm bs bm hE rt htn bt hhi ht
  go_enter Try.func49, Try.ntmps49
  go_wp2_with fail
  refine (blockSize_any CB.out HM.out).mono ?_
  rintro e1 w1 ⟨rfl, rfl⟩
  go_wp2_with (first
    | ((with_reducible refine gate (N := 16) rfl ?_); refine wpList_make_k rfl _ 22 rfl 5 .u8 1 Try.underlying22 info8 (by decide) 16 _ rfl rfl (by omega) ?_
       intro w2 g2 HG2 ho2 hc2 hz2
       obtain ⟨f0, f1⟩ := own_at ho2 15 (by rw [List.length_replicate]; omega)
       have S2 : As (Own (w2.setCell ⟨g2, 15, none⟩ (.int .u8 t)) w1.heap.size 5 .u8 (.slice (some ⟨g2, 0, none⟩) 16 16) ((List.replicate 16 0).set 15 t)) := ⟨own_set ho2 15 t⟩
       have C3 : As (Chg NoB w1 (w2.setCell ⟨g2, 15, none⟩ (.int .u8 t))) := ⟨hc2.setCell (p := ⟨g2, 15, none⟩) _ (fun h => by exfalso; have h1 : g2 < w1.heap.size := h; have := HG2.out; omega)⟩
       clear ho2 hc2 hz2 x0)
    | (at_builtin; refine wpList_append_ow rfl _ _ 22 rfl 5 .u8 1 Try.underlying22 info8 (by decide) _ w1.heap.size ((List.replicate 16 0).set 15 t) text TA tn tc rfl rfl HN.out (ow_of S2.out) (RT.out.keep C3.out) C3.out.size (by rw [HL16.out]; have := HN.out; omega) ?_
       intro v4 w4 ho4 hc4
       have O4 := As.mk ho4
       have C4 : As (Chg NoB w1 w4) := ⟨Chg.over C3.out hc4 (Nat.le_refl _)⟩
       clear ho4 hc4))
  have hown := ow_own O4.out (by rw [List.length_append, HL16.out]; omega)
  obtain ⟨g4, c4, hv4, hl4, hg4, hg4'⟩ := own_form_pos hown (by rw [List.length_append, HL16.out]; omega)
  rw [show ((List.replicate 16 (0 : Int)).set 15 t ++ text).length = 16 + tn from by rw [List.length_append, HL16.out, HN.out]] at hv4 hl4
  subst hv4
  have O5 : As (Own w4 w1.heap.size 5 .u8 (.slice (some ⟨g4, 0, none⟩) (16 + tn) c4) (twk t text)) := ⟨hown⟩
  have HG4 := As.mk hg4
  clear hown hl4 hg4 hg4' O4 S2 C3
  go_wp2_with fail
  refine (omac_any (w := w4) (CB.out.keep C4.out) HR.out HM.out HBY.out.1 HBY.out.2.1 (HEX.out.chg C4.out (fun e => e)) O5.out (twk_byt HT.out HBY.out.2.2) (by omega) (by rw [twk_length, HN.out]) (by omega) C4.out.size (by have := HG4.out; have := HHI.out; omega) (Nat.le_trans HHI.out C4.out.size)).mono ?_
  rintro e6 w6 ⟨ad, c6, rfl, h1, h2, h3, h4, h5⟩
  have H6 := As.mk (And.intro h1 (And.intro h2 (And.intro h3 (And.intro h4 h5))))
  clear h1 h2 h3 h4 h5
  go_wp2_with fail
  go_ret
  obtain ⟨h1, h2, h3, h4, h5⟩ := H6.out
  exact ⟨ad, c6, rfl, h1, Nat.le_trans C4.out.size h2, h3, h4, C4.out.trans h5 (fun b hb e => by have := HG4.out; omega)⟩
set_option maxRecDepth 100000 in
set_option maxHeartbeats 1000000 in
theorem zzOmac_any {w : World} {lo hi B : Nat} {t : Int} {perm sub mask text : List Int} {TA : Option Addr} {tn tc : Nat} (hC : Cph w lo hi B perm sub mask) (hr : RightB perm sub 16) (hm : mask.length = 16) (bs : Byt sub) (bm : Byt mask)
    (ht : 0 ≤ t ∧ t ≤ 255) (rt : Rb w TA text) (htn : tn = text.length) (bt : Byt text) (hl : tn ≤ 4294967296) (hhi : hi ≤ w.heap.size) :
    Calls Try.prog 29 #[cphV B, .int .u8 t, .slice TA tn tc] w (GivesR NoB w (omacL perm sub mask (twk t text))) := by
  have CB := As.mk hC
  have HR := As.mk hr
  have HM := As.mk hm
  have HBY := As.mk (And.intro bs (And.intro bm bt))
  have RT := As.mk rt
  have HN := As.mk htn
  have HHI := As.mk hhi
  have HT := As.mk ht
  clear hC hr hm bs bm rt htn bt hhi ht
  go_enter Try.func29, Try.ntmps29
  go_wp2_with fail
  refine (omacT_any (E := w.heap.size) (tg := 0) (nn := 0) (CB.out.keep ((Chg.refl NoB w).alloc _)) HR.out HM.out HBY.out.1 HBY.out.2.1 (Blk.new w 88 [cphV B, .int .i64 0, .int .i64 0]) HT.out (RT.out.alloc _) HN.out HBY.out.2.2 hl (by have := HHI.out; exact Nat.le_trans this ((Chg.refl NoB w).alloc _).size)).mono ?_
  rintro e6 w6 ⟨ad, c6, rfl, h1, h2, h3, h4, h5⟩
  have hal := (Chg.refl NoB w).alloc (.cells [cphV B, .int .i64 0, .int .i64 0].toArray 88)
  have H6 := As.mk (And.intro h1 (And.intro (Nat.le_trans hal.size h2) (And.intro h3 (And.intro h4 (hal.trans h5 (fun _ _ e => e))))))
  clear h1 h2 h3 h4 h5 hal
  go_wp2_with fail
  go_ret
  obtain ⟨h1, h2, h3, h4, h5⟩ := H6.out
  exact ⟨ad, c6, rfl, h1, h2, h3, h4, h5⟩
/-- A row of its own, and true. -/
def GivesOk (w : World) (xs : List Int) (e : Ending) (w' : World) : Prop :=
  ∃ v, e = .returned (.tuple #[v, .bool true]) ∧ Own w' w.heap.size 5 .u8 v xs ∧ Chg NoB w w'
set_option maxRecDepth 100000 in
set_option maxHeartbeats 1000000 in
theorem eaxOmac_any (PA : Option Addr) (pn pc : Nat) (SA : Option Addr) (sn sc : Nat) (MA : Option Addr) (mn mc : Nat) (perm sub mask : List Int) (t : Int) (TA : Option Addr) (tn tc : Nat) (text : List Int) (w : World)
    (hp : pn = perm.length) (hs : sn = sub.length) (hm : mn = mask.length) (h16 : mn = 16) (rp : Rb w PA perm) (rs : Rb w SA sub) (rm : Rb w MA mask) (bs : Byt sub) (bm : Byt mask) (hr : RightB perm sub 16)
    (ht : 0 ≤ t ∧ t ≤ 255) (rt : Rb w TA text) (htn : tn = text.length) (bt : Byt text) (hl : tn ≤ 4294967296) :
    Calls Try.prog 10 #[blkV PA pn pc SA sn sc MA mn mc, .int .u8 t, .slice TA tn tc] w (GivesOk w (omacL perm sub mask (twk t text))) := by
  subst h16
  have e1 : pn = 16 := by rw [hp]; exact hr.2.2.1.1
  have e2 : sn = 256 := by rw [hs]; exact hr.2.2.2.1
  subst e1
  subst e2
  have HR := As.mk hr
  have HP := As.mk hp
  have HS := As.mk hs
  have HM : As (mask.length = 16) := ⟨hm.symm⟩
  have HBY := As.mk (And.intro bs (And.intro bm bt))
  have RP := As.mk rp
  have RS := As.mk rs
  have RM := As.mk rm
  have RT := As.mk rt
  have HN := As.mk htn
  have HT := As.mk ht
  clear hr hp hs hm bs bm bt rp rs rm rt htn ht
  unfold blkV
  obtain ⟨w0, hw0⟩ : ∃ w0, w0 = w.alloc (.cells #[.slice PA 16 pc, .slice SA 256 sc, .slice MA 16 mc] 24) := ⟨_, rfl⟩
  have C0 : As (Chg NoB w w0) := ⟨by rw [hw0]; exact (Chg.refl NoB w).alloc _⟩
  have B0 : As (Blk w0 w.heap.size 24 [.slice PA 16 pc, .slice SA 256 sc, .slice MA 16 mc]) := ⟨by rw [hw0]; exact Blk.new _ _ _⟩
  go_enter Try.func10, Try.ntmps10
  go_upto_region 1 with fail
  rw [← hw0]
  have x0 := B0.out.cell 0
  have x1 := B0.out.cell 1
  have x2 := B0.out.cell 2
  simp only [List.getElem?_cons_zero, List.getElem?_cons_succ] at x0 x1 x2
  clear hw0
  go_wp2_with fail
  refine (blockRight_yes PA 16 pc SA 256 sc MA 16 mc perm sub w0 HP.out HS.out (RP.out.keep C0.out) (RS.out.keep C0.out) HR.out).mono ?_
  rintro e1 w1 ⟨rfl, hc1⟩
  have C1 := As.mk (C0.out.trans hc1 (fun _ _ e => e))
  have B1 := As.mk (B0.out.chg hc1 (fun e => e))
  clear hc1 x0 x1 x2 B0
  have x0 := B1.out.cell 0
  have x1 := B1.out.cell 1
  have x2 := B1.out.cell 2
  simp only [List.getElem?_cons_zero, List.getElem?_cons_succ] at x0 x1 x2
  go_wp2_with fail
  refine (cipherOf_any PA 16 pc SA sc MA 16 mc perm sub mask w1 HP.out.symm HS.out.symm HM.out (by omega) (by omega) (RP.out.keep C1.out) (RS.out.keep C1.out) (RM.out.keep C1.out) HBY.out.1).mono ?_
  rintro e2 w2 ⟨hc2, lo, hi, B, rfl, hlo, hhi, hcb⟩
  have C2 := As.mk (C1.out.trans hc2 (fun _ _ e => e))
  have CB := As.mk hcb
  have HHI := As.mk hhi
  clear hc2 hlo hhi hcb x0 x1 x2 B1
  go_wp2_with fail
  refine (own_any TA tn tc text w2 HN.out (RT.out.keep C2.out) (by have := HN.out; omega)).mono ?_
  rintro e3 w3 ⟨v3, rfl, ho3, hc3⟩
  obtain ⟨A3, c3, hv3, _, hr3, _⟩ := own_form ho3
  rw [← HN.out] at hv3
  subst hv3
  have R3 := As.mk hr3
  have C3 := As.mk (C2.out.trans hc3 (fun _ _ e => e))
  have CB3 := As.mk (CB.out.keep hc3)
  have HHI3 := As.mk (Nat.le_trans HHI.out hc3.size)
  clear ho3 hc3 hr3
  go_wp2_with fail
  refine (zzOmac_any CB3.out HR.out HM.out HBY.out.1 HBY.out.2.1 HT.out R3.out HN.out HBY.out.2.2 hl HHI3.out).mono ?_
  rintro e4 w4 ⟨ad, c4, rfl, h1, h2, h3, h4, h5⟩
  have R4 := As.mk h4
  have C4 := As.mk (C3.out.trans h5 (fun _ _ e => e))
  have HL4 : As (16 = (omacL perm sub mask (twk t text)).length) := ⟨(cbcSt_length (fun x => by rw [encL_length]; exact HM.out) (by simp) _).symm⟩
  clear h1 h2 h3 h4 h5
  go_wp2_with fail
  refine (own_any (some ad) 16 c4 _ w4 HL4.out R4.out (by have := HL4.out; omega)).mono ?_
  rintro e5 w5 ⟨v5, rfl, ho5, hc5⟩
  have O5 := As.mk (own_lower (base' := w.heap.size) ho5 C4.out.size)
  have C5 := As.mk (C4.out.trans hc5 (fun _ _ e => e))
  clear ho5 hc5
  go_wp2_with fail
  go_ret2
  exact ⟨v5, rfl, O5.out, C5.out⟩
end Go.Proofs.Ythbgpbaneghmdaa
