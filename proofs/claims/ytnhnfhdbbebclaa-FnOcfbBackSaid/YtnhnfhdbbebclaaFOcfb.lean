/- The walk of FnOcfbBack. (Printed by wip/ocfblaw.py.) -/
import Derived.Test.YtnhnfhdbbebclaaDecO
import Derived.Test.YtnhnfhdbbebclaaFeedB
import Derived.Test.YtnhnfhdbbebclaaCuts
import Derived.Test.YtnhnfhdbbebclaaStepW
import Derived.Deep.DeepMust
set_option linter.unusedVariables false
set_option linter.unusedSimpArgs false
namespace Go.Proofs.Ytnhnfhdbbebclaa
open Go.RowKit V
/-- It answers true, and nothing that was has turned. -/
def YesO (w : World) (e : Ending) (w' : World) : Prop := e = .returned (.bool true) ∧ Below w.heap.size w w'
set_option maxRecDepth 100000 in
set_option maxHeartbeats 8000000 in
theorem fnOcfbBack_main {PA : Option Addr} {pn pc : Nat} {SA : Option Addr} {sn sc : Nat} {MA : Option Addr} {mn mc : Nat} {perm sub mask rand : List Int} {RA : Option Addr} {rn rc : Nat} (rs : Bool) {A : Option Addr} {tn tc : Nat} {vs : List Sl} {xss : List (List Int)} {L : Nat} {w : World}
    (hp : pn = perm.length) (hs : sn = sub.length) (hm : mn = mask.length) (rp : Rb w PA perm) (rsu : Rb w SA sub) (rm : Rb w MA mask) (bp : Byt perm) (bs : Byt sub) (bm : Byt mask)
    (rr : Rb w RA rand) (hrl : rn = rand.length) (br : Byt rand) (hrc : rn ≤ rc) (htn : tn = vs.length) (hrr : Rrs w A vs xss) (hby : Byt xss.flatten) (hLL : xss.flatten.length = L) :
    Calls Try.prog 6 #[blkV PA pn pc SA sn sc MA mn mc, .slice RA rn rc, .bool rs, .slice A tn tc] w (YesO w) := by
  have HP := As.mk hp
  have HS := As.mk hs
  have HM := As.mk hm
  have RP := As.mk rp
  have RS := As.mk rsu
  have RM := As.mk rm
  have HB := As.mk (And.intro bp (And.intro bs (And.intro bm (And.intro br hby))))
  have RR := As.mk rr
  have HRL := As.mk hrl
  have HRC := As.mk hrc
  have HTN := As.mk htn
  have RT := As.mk hrr
  have HLL := As.mk hLL
  clear hp hs hm rp rsu rm bp bs bm rr hrl br hrc htn hrr hby hLL
  unfold blkV
  obtain ⟨w0, hw0⟩ : ∃ w0, w0 = w.alloc (.cells #[.slice PA pn pc, .slice SA sn sc, .slice MA mn mc] 24) := ⟨_, rfl⟩
  have C0 : As (Chg NoB w w0) := ⟨by rw [hw0]; exact (Chg.refl NoB w).alloc _⟩
  have B0 : As (Blk w0 w.heap.size 24 [.slice PA pn pc, .slice SA sn sc, .slice MA mn mc]) := ⟨by rw [hw0]; exact Blk.new _ _ _⟩
  have X0 := B0.out.cell 0
  have X1 := B0.out.cell 1
  have X2 := B0.out.cell 2
  simp only [List.getElem?_cons_zero, List.getElem?_cons_succ] at X0 X1 X2
  by_cases hf : Fits27 pn sn mn
  · have HF := As.mk (decide_eq_true hf)
    by_cases hx : rn ≤ 2147483647
    · have hx1 : ¬ ((rn : Int) > 2147483647) := by omega
      by_cases hg : Fits2 tn vs
      · have HG := As.mk (decide_eq_true hg)
        have HJB : As (tn ≤ 60 → xss.flatten.length ≤ 140737488351232) := ⟨fun h => by
          have h1 := flat_len_le 2147483647 xss (fun xs hxs => by
            obtain ⟨j, hj, rfl⟩ := List.mem_iff_getElem.1 hxs
            have hjv : j < vs.length := by have := RT.out.2.1; omega
            rw [← (RT.out.2.2 j hjv hj).1]
            exact hg.2 _ (List.getElem_mem hjv))
          have h2 : xss.length ≤ 60 := by have := RT.out.2.1; have := HTN.out; omega
          have h3 : xss.length * 2147483647 ≤ 60 * 2147483647 := Nat.mul_le_mul_right _ h2
          omega⟩
        by_cases hfb : FeedB perm sub mn rn tn L
        · have HFB := As.mk (decide_eq_true hfb)
          have HFD := As.mk hfb
          clear hf hg hfb
          go_enter Try.func6, Try.ntmps6
          go_upto_region 1 with fail
          rw [← hw0]
          clear hw0
          go_wp2_with (first
            | (with_reducible refine (fits27_any PA pn pc SA sn sc MA mn mc w0).mono ?_
               rintro e1 w1 ⟨he, hc1⟩
               rw [HF.out] at he
               subst he
               have C1 := As.mk (C0.out.trans hc1 (fun _ _ e => e))
               have B1 := As.mk (B0.out.chg hc1 (fun e => e))
               clear hc1 X0 X1 X2 B0
               have X0 := B1.out.cell 0
               have X1 := B1.out.cell 1
               have X2 := B1.out.cell 2
               simp only [List.getElem?_cons_zero, List.getElem?_cons_succ] at X0 X1 X2)
            | (with_reducible go_at_call 20
               go_must (refine (fits2_all A tn tc vs w1 HTN.out (RT.out.keep C1.out).1).mono ?_)
               rintro e2 w2 ⟨he, rfl⟩
               rw [HG.out] at he
               subst he))
          refine (feedable_any (L := L) HP.out HS.out (RP.out.keep C1.out) (RS.out.keep C1.out) HB.out.1 HB.out.2.1 HTN.out (RT.out.keep C1.out) HLL.out HJB.out).mono ?_
          rintro e3 w3 ⟨he, hc3⟩
          rw [HFB.out] at he
          subst he
          have C3 := As.mk (C1.out.trans hc3 (fun _ _ e => e))
          have B3 := As.mk (B1.out.chg hc3 (fun e => e))
          clear hc3 X0 X1 X2 B1
          have X0 := B3.out.cell 0
          have X1 := B3.out.cell 1
          have X2 := B3.out.cell 2
          simp only [List.getElem?_cons_zero, List.getElem?_cons_succ] at X0 X1 X2
          go_wp2_with fail
          have epn : mn = pn := by rw [HP.out]; exact HFD.out.1.2.2.1.1.symm
          have esn : 256 = sn := by rw [HS.out]; exact HFD.out.1.2.2.2.1.symm
          have ern : mn = rn := HFD.out.2.2.1.symm
          subst epn
          subst esn
          subst ern
          have m32 : mn ≤ 32 := HFD.out.1.2.1
          have m2 : 2 ≤ mn := HFD.out.2.1
          have t60 : tn ≤ 60 := HFD.out.2.2.2.1
          have l4 : L ≤ 4096 := HFD.out.2.2.2.2
          have HRI := As.mk HFD.out.1
          have HML := As.mk HM.out.symm
          have HE : As (∀ x, (encL perm sub mask x).length = mn) := ⟨fun x => by rw [encL_length]; exact HML.out⟩
          have HEB : As (∀ x, Byt (encL perm sub mask x)) := ⟨fun x => encL_byt x HB.out.2.1 HB.out.2.2.1⟩
          have KQ : As (∀ w', Chg NoB w3 w' → w'.cell? ⟨w.heap.size, 0, none⟩ = some (.slice PA mn pc) ∧ w'.cell? ⟨w.heap.size, 1, none⟩ = some (.slice SA 256 sc) ∧ w'.cell? ⟨w.heap.size, 2, none⟩ = some (.slice MA mn mc)) := ⟨fun w' h => by
            have b := B3.out.chg h (fun e => e)
            exact ⟨b.cell 0, b.cell 1, b.cell 2⟩⟩
          have HBB : As (Chg NoB w3 w3) := ⟨Chg.refl _ _⟩
          clear HFD HFB HJB HF HG
          obtain ⟨J, hJ⟩ : ∃ J, J = xss.flatten := ⟨_, rfl⟩
          have HJ := As.mk hJ
          have HJL : As (L = J.length) := ⟨by rw [hJ]; exact HLL.out.symm⟩
          have HJB : As (Byt J) := ⟨by rw [hJ]; exact HB.out.2.2.2.2⟩
          clear hJ
          obtain ⟨pre, hpre⟩ : ∃ pre, pre = ofPre (encL perm sub mask) mn rand := ⟨_, rfl⟩
          obtain ⟨st, hst⟩ : ∃ st, st = ofSt (encL perm sub mask) mn pre rs := ⟨_, rfl⟩
          have HPRE := As.mk hpre
          have HST := As.mk hst
          have HPL : As (mn + 2 = pre.length) := ⟨by rw [hpre]; exact (ofPre_length _).symm⟩
          have HPB : As (Byt pre) := ⟨by rw [hpre]; exact ofPre_byt HEB.out HB.out.2.2.2.1⟩
          have HOK : As (OkS mn st) := ⟨by rw [hst]; exact okS_St HE.out HEB.out m2 HPB.out rs⟩
          clear hpre hst
          go_cut [9, 10, 11] (fun s9 s10 s11 wx => ∃ (G gc O oc : Nat) (DA : Option Addr) (dc : Nat), s9 = .slice (some ⟨G, 0, none⟩) (mn + 2) gc ∧ s10 = .slice (some ⟨O, 0, none⟩) 1 oc ∧ s11 = .bool true ∧ As (Rb wx (some ⟨G, 0, none⟩) pre) ∧ As (wx.cell? ⟨O, 0, none⟩ = some (.slice DA L dc)) ∧ As (Pz (fun b => w.heap.size ≤ b) wx (DA, L, dc) (outE (encL perm sub mask) mn st J)) ∧ As (Chg NoB w3 wx))
          case first =>
            go_region_held3 (fun w' => w'.cell? ⟨w.heap.size, 0, none⟩ = some (.slice PA mn pc) ∧ w'.cell? ⟨w.heap.size, 1, none⟩ = some (.slice SA 256 sc) ∧ w'.cell? ⟨w.heap.size, 2, none⟩ = some (.slice MA mn mc)) (exact KQ.out _ (by repeat (first | (with_reducible exact HBB.out) | (with_reducible apply Chg.drew) | (with_reducible apply Chg.alloc)))) (first
              | (go_at_call 23
                 refine (joinedTexts_any A tn tc vs xss _ HTN.out ((RT.out.keep C3.out).keep ?r1) ?r2).mono ?_
                 case r1 => exact (by repeat (first | (with_reducible exact HBB.out) | (with_reducible apply Chg.drew) | (with_reducible apply Chg.alloc)))
                 case r2 => (have := HLL.out; omega)
                 rintro e w5 ⟨v5, rfl, ho5, hc5⟩
                 obtain ⟨A5, c5, hv5, _, _, _⟩ := own_form ho5
                 rw [HLL.out] at hv5
                 subst hv5
                 have HBB5 : As (Chg NoB w3 w5) := ⟨Chg.trans (by repeat (first | (with_reducible exact HBB.out) | (with_reducible apply Chg.drew) | (with_reducible apply Chg.alloc))) hc5 (fun _ _ e => e)⟩
                 have HO5 := As.mk (Pz.one HJL.out (by rw [← HJ.out] at ho5; exact ho5))
                 clear HBB ho5 hc5
                 have HBB := HBB5
                 clear HBB5)
              | (go_at_call 22
                 refine (ocfbEncrypt_any (xss := [J]) (vs := [(A5, L, c5)]) (rand := rand) (m := 1) rs HRI.out HML.out (RP.out.keep (Chg.trans (S' := NoB) C3.out (by repeat (first | (with_reducible exact HBB.out) | (with_reducible apply Chg.drew) | (with_reducible apply Chg.alloc))) (fun _ _ e => e))) (RS.out.keep (Chg.trans (S' := NoB) C3.out (by repeat (first | (with_reducible exact HBB.out) | (with_reducible apply Chg.drew) | (with_reducible apply Chg.alloc))) (fun _ _ e => e))) (RM.out.keep (Chg.trans (S' := NoB) C3.out (by repeat (first | (with_reducible exact HBB.out) | (with_reducible apply Chg.drew) | (with_reducible apply Chg.alloc))) (fun _ _ e => e))) HB.out.2.1 HB.out.2.2.1 m2 (RR.out.keep (Chg.trans (S' := NoB) C3.out (by repeat (first | (with_reducible exact HBB.out) | (with_reducible apply Chg.drew) | (with_reducible apply Chg.alloc))) (fun _ _ e => e))) HRL.out HB.out.2.2.2.1 rfl (Rrs.one _ HJL.out HO5.out.2.2.1) ?hA ?hp ?hby (by simp) ?hl).mono ?_
                 case hA => (intro ad e; injection e with e; subst e; simp)
                 case hp => (intro j h h'; have h0 : j = 0 := by simpa using h
                             subst h0; exact HO5.out.chg (S := NoB) ((Chg.refl NoB w5).alloc _) (fun _ _ _ e => e))
                 case hby => (intro xs hxs; have h0 : xs = J := by simpa using hxs
                              rw [h0]; exact HJB.out)
                 case hl => (intro xs hxs; have h0 : xs = J := by simpa using hxs
                             rw [h0, ← HJL.out]; omega)
                 rintro e w6 ⟨v0, v1, rfl, ho6, hrw6, hc6⟩
                 rw [← HPRE.out, ← HST.out] at *
                 obtain ⟨G, gc, hv0, _, _, _⟩ := own_form_pos ho6 (by rw [← HPL.out]; omega)
                 rw [← HPL.out] at hv0
                 subst hv0
                 have HP6 := As.mk (own_reads ho6)
                 have hrw := hrw6.mono (K' := fun b => w.heap.size ≤ b) (fun b _ h => Nat.le_trans (Nat.le_trans C3.out.size (Chg.size (S := NoB) (w := w3) (by repeat (first | (with_reducible exact HBB.out) | (with_reducible apply Chg.drew) | (with_reducible apply Chg.alloc))))) h)
                 have hone : outsE (encL perm sub mask) mn st [J] = [outE (encL perm sub mask) mn st J] := rfl
                 rw [hone] at hrw
                 obtain ⟨A6, c6, vs6, hv1, _, hrr6, hpz6, hA6, _⟩ := hrw.row (by simp)
                 obtain ⟨O, hO, _, _⟩ := hA6 Nat.zero_lt_one
                 subst hO
                 have hv2 : v1 = .slice (some ⟨O, 0, none⟩) 1 c6 := hv1
                 subst hv2
                 have HBB6 : As (Chg NoB w3 w6) := ⟨Chg.trans (S' := NoB) (by repeat (first | (with_reducible exact HBB.out) | (with_reducible apply Chg.drew) | (with_reducible apply Chg.alloc))) hc6 (fun _ _ e => e)⟩
                 have HRR6 := As.mk (And.intro hrr6 hpz6)
                 clear HBB ho6 hrw6 hc6 hrw hone hv1 hrr6 hpz6 hA6
                 have HBB := HBB6
                 clear HBB6))
            all_goals
              go_wp2_with fail
              go_meet
              have h0 : 0 < vs6.length := by rw [HRR6.out.1.2.1]; exact Nat.zero_lt_one
              obtain ⟨ad, hade, hcell⟩ := HRR6.out.1.1.at_ 0 h0
              injection hade with hade
              subst hade
              have hz := HRR6.out.2 0 h0 Nat.zero_lt_one
              have hz2 : Pz (fun b => w.heap.size ≤ b) w6 vs6[0] (outE (encL perm sub mask) mn st J) := hz
              have hn1 : vs6[0].2.1 = L := by rw [hz2.1, outE_length, ← HJL.out]
              rw [add_lit0, hn1] at hcell
              exact ⟨G, gc, O, _, vs6[0].1, vs6[0].2.2, rfl, rfl, rfl, HP6, ⟨hcell⟩, ⟨by rw [← hn1]; exact hz2⟩, HBB⟩
          case rest =>
            obtain ⟨G, gc, O, oc, DA, dc, rfl, rfl, rfl, RG, HCL, PZ, CX⟩ := hcut
            have HBW : As (Chg NoB wc wc) := ⟨Chg.refl _ _⟩
            have C5 := As.mk (C3.out.trans CX.out (fun _ _ e => e))
            have KC : As (∀ w', Chg NoB wc w' → w'.cell? ⟨O, 0, none⟩ = some (.slice DA L dc)) := ⟨fun w' h => (h.cell (p := ⟨O, 0, none⟩) (World.block_lt_of_cell? _ _ HCL.out) (fun e => e)).trans HCL.out⟩
            have hcl := HCL.out
            have hLne : ((L : Int) != (L : Int)) = false := by simp
            clear HBB KQ
            go_wp2_with fail
            go_region_held3 (fun w' => w'.cell? ⟨O, 0, none⟩ = some (.slice DA L dc)) (exact KC.out _ (by repeat (first | (with_reducible exact HBW.out) | (with_reducible apply Chg.drew) | (with_reducible apply Chg.alloc)))) (first
              | (go_at_call 23
                 refine (joinedTexts_any A tn tc vs xss _ HTN.out ((RT.out.keep C5.out).keep ?r1) ?r2).mono ?_
                 case r1 => exact (by repeat (first | (with_reducible exact HBW.out) | (with_reducible apply Chg.drew) | (with_reducible apply Chg.alloc)))
                 case r2 => (have := HLL.out; omega)
                 rintro e w7 ⟨v7, rfl, ho7, hc7⟩
                 obtain ⟨A7, c7, hv7, _, _, _⟩ := own_form ho7
                 rw [HLL.out] at hv7
                 subst hv7
                 have HBB7 : As (Chg NoB wc w7) := ⟨Chg.trans (by repeat (first | (with_reducible exact HBW.out) | (with_reducible apply Chg.drew) | (with_reducible apply Chg.alloc))) hc7 (fun _ _ e => e)⟩
                 clear HBW ho7 hc7
                 have HBW := HBB7
                 clear HBB7))
            all_goals
              go_wp2_with fail
              have C7 := As.mk (C5.out.trans HBW.out (fun _ _ e => e))
              have RG7 := As.mk (RG.out.keep HBW.out)
              have KC7 : As (∀ w', Chg NoB w7 w' → w'.cell? ⟨O, 0, none⟩ = some (.slice DA L dc)) := ⟨fun w' h => KC.out _ (HBW.out.trans h (fun _ _ e => e))⟩
              have PZ7 : As (Pz (fun b => b < w7.heap.size) w7 (DA, L, dc) (outE (encL perm sub mask) mn st J)) := ⟨(PZ.out.chg (S := NoB) HBW.out (fun _ _ _ e => e)).mono (fun b h _ => h)⟩
              have HYL : As ((outE (encL perm sub mask) mn st J).length = L) := ⟨by rw [outE_length, HJL.out]⟩
              have HYB : As (Byt (outE (encL perm sub mask) mn st J)) := ⟨outE_byt HE.out HEB.out (by omega) J st HOK.out HJB.out⟩
              obtain ⟨Y, hY⟩ : ∃ Y, Y = outE (encL perm sub mask) mn st J := ⟨_, rfl⟩
              have HY := As.mk hY
              rw [← hY] at PZ7 HYL HYB
              have HLDC : As (L ≤ dc) := ⟨by have := PZ7.out.2.1; rw [HYL.out] at this; exact this⟩
              clear hY hcl HCL KC PZ
              go_loopw [12, 13, 14] (fun r av iv wr => ∃ (k a : Nat) (rv : Value), rv = r ∧ k ≤ tn ∧ av = .int .i64 a ∧ iv = .int .i64 k ∧ As (a = (xss.take k).flatten.length) ∧ As (Rws (fun b => b < w7.heap.size) wr w7.heap.size 22 rv (cuts (xss.take k) Y)) ∧ As (Chg NoB w7 wr)) (fun _ _ iv _ => tn - (intOf iv).toNat)
              case atStart => exact ⟨0, 0, _, rfl, Nat.zero_le _, rfl, rfl, ⟨rfl⟩, ⟨Rws.nil _ _ _ _⟩, ⟨Chg.refl _ _⟩⟩
              case round =>
                obtain ⟨k, a, rv, rfl, hk, rfl, rfl, HA0, HROW, HC⟩ := hrel
                by_cases hlt : k < tn
                · have hkv : k < vs.length := by have := HTN.out; omega
                  have hkx : k < xss.length := by have := RT.out.2.1; omega
                  obtain ⟨adt, rfl, hct7⟩ := (RT.out.1.chg C7.out (fun _ _ _ e => e)).at_ k hkv
                  have hct := (HC.out.cell (p := adt.add k) (World.block_lt_of_cell? _ _ hct7) (fun e => e)).trans hct7
                  have hq := (RT.out.2.2 k hkv hkx).1
                  have HST1 := As.mk (cuts_step hkx Y)
                  have HF1 := congrArg List.length (flat_take hkx)
                  rw [List.length_append, ← HA0.out, ← hq] at HF1
                  have hle2 := flat_take_le xss (k + 1)
                  have hle3 := HLL.out
                  rw [← HA0.out, ← hq] at HST1
                  have HSZ : As ((cuts (xss.take k) Y).length = k) := ⟨by rw [cuts_length, List.length_take]; omega⟩
                  generalize vs[k] = pp at *
                  obtain ⟨QA, q, qc⟩ := pp
                  obtain ⟨a2, ha2⟩ : ∃ a2, a2 = a + q := ⟨_, rfl⟩
                  have hF2 : a2 = (xss.take (k + 1)).flatten.length := by rw [ha2]; exact HF1.symm
                  have HF2 := As.mk hF2
                  have hA2L : a2 ≤ L := by omega
                  generalize cuts (xss.take k) Y = l at *
                  clear hq HF1 hle2 hle3 hF2
                  have hco := KC7.out _ HC.out
                  have i1 : (a : Int) + (q : Int) = (a2 : Int) := by omega
                  have i2 : IntKind.i64.wrap (a2 : Int) = (a2 : Int) := by simp [IntKind.wrap, IntKind.bits, IntKind.signed]; omega
                  have hldc := HLDC.out
                  obtain ⟨A8, hcutA, hcutP⟩ := cut_mid_z (P := Try.prog) 22 5 Try.underlying22 size8 DA L dc a a2 .i64 .i64 q ha2 (by omega)
                  have HRVB := As.mk HROW.out.lt
                  have HPC := As.mk (hcutP (fun b => b < w7.heap.size ∧ rv.ownBlock ≠ some b) wr Y HYL.out HLDC.out hA2L ((PZ7.out.chg (S := NoB) HC.out (fun _ _ _ e => e)).mono (fun b _ h => ⟨h, fun e => by have := HRVB.out b e; omega⟩)))
                  obtain ⟨vr, hvl, hvo, hvi⟩ := HROW.out
                  have HVL := As.mk hvl
                  have HVO := As.mk hvo
                  have HVI := As.mk hvi
                  have KR : As (∀ w', Chg NoB w7 w' → w'.cell? ⟨O, 0, none⟩ = some (.slice DA L dc) ∧ w'.cell? (adt.add k) = some (.slice QA q qc)) := ⟨fun w' h => ⟨KC7.out _ h, (h.cell (p := adt.add k) (World.block_lt_of_cell? _ _ hct7) (fun e => e)).trans hct7⟩⟩
                  have HBX : As (Chg NoB w7 wr) := HC
                  have hko : (0 : Int) ≤ (k : Int) := by omega
                  clear hcutP hvl hvo hvi HA0 ha2 hldc hct7
                  go_wp2_with fail
                  go_region_held3 (fun w' => w'.cell? ⟨O, 0, none⟩ = some (.slice DA L dc) ∧ w'.cell? (adt.add k) = some (.slice QA q qc)) (exact KR.out _ (by repeat (first | (with_reducible exact HBX.out) | (with_reducible apply Chg.drew) | (with_reducible apply Chg.alloc)))) (first
                    | (refine step_append_s (N := 84) rfl rfl _ _ 43 rfl 22 1 (.slice none 0 0) 24 Try.underlying43 infoRow rfl (by decide) (by decide) rv w7.heap.size l.length (vr.map slV) _ 1 [.slice A8 q (dc - a)] rfl rfl ?k1 rfl ?k2 (by simp [Value.oneCell']) ?k4 ?k5 ?_
                       case k1 => exact row_keep HVO.out (by repeat (first | exact Chg.refl _ _ | (with_reducible apply Chg.drew) | (with_reducible apply Chg.alloc)))
                       case k2 => exact (Blk.new _ _ [.slice A8 q (dc - a)]).news
                       case k4 => exact Nat.le_trans HC.out.size (Chg.size (S := NoB) (w := wr) (by repeat (first | exact Chg.refl _ _ | (with_reducible apply Chg.drew) | (with_reducible apply Chg.alloc))))
                       case k5 => (rw [HSZ.out]; omega)
                       intro v4 w4 h2 h3 h5
                       have hpush := Rws.push (K := fun b => b < w7.heap.size) (p := (A8, q, dc - a)) (xs := (Y.drop a).take q) h2 h3 h5 (by repeat (first | exact Chg.refl _ _ | (with_reducible apply Chg.drew) | (with_reducible apply Chg.alloc))) HVL.out HVO.out HVI.out HPC.out
                       have HPU := As.mk hpush.1
                       have HC4 : As (Chg NoB w7 w4) := ⟨HC.out.trans hpush.2 (fun b hb e => by have := HRVB.out b e; omega)⟩
                       clear h2 h3 h5 hpush HBX
                       have HBX := HC4))
                  all_goals
                    go_wp2_with fail
                    go_roundw
                    case rel => exact ⟨k + 1, a2, _, rfl, by omega, rfl, by go_num, HF2, ⟨by rw [HST1.out]; exact HPU.out⟩, HC4⟩
                    case measure => simp [intOf]; omega
                · obtain rfl : k = tn := by omega
                  have HXL : As (xss.length = k) := ⟨by have := RT.out.2.1; have := HTN.out; omega⟩
                  have hrow := HROW.out
                  rw [List.take_of_length_le (by rw [HXL.out]; exact Nat.le_refl _)] at hrow
                  obtain ⟨A8, c8, vs8, hv8, _, hrr8, hpz8, _, hA8⟩ := hrow.row (by rw [cuts_length, HXL.out]; omega)
                  rw [cuts_length, HXL.out] at hv8
                  subst hv8
                  have HRR8 := As.mk hrr8
                  have HPZ8 := As.mk hpz8
                  have HA8 := As.mk hA8
                  have HV8L : As (k = vs8.length) := ⟨by rw [hrr8.2.1, cuts_length, HXL.out]⟩
                  have CR := As.mk (C7.out.trans HC.out (fun _ _ e => e))
                  have b8 := B3.out.chg (CX.out.trans (HBW.out.trans HC.out (fun _ _ e => e)) (fun _ _ e => e)) (fun e => e)
                  have RG8 := As.mk (RG7.out.keep HC.out)
                  have HFL : As ((cuts xss Y).flatten = Y) := ⟨cuts_flat xss Y (by rw [HYL.out, HLL.out])⟩
                  have HCB := As.mk (cuts_byt xss Y HYB.out)
                  have HCL8 : As (∀ xs ∈ cuts xss Y, xs.length ≤ 140737488351232) := ⟨fun xs hxs => by
                    have h1 := mem_len_le hxs
                    rw [HFL.out, HYL.out] at h1
                    omega⟩
                  clear hrow hrr8 hpz8 hA8 HROW X0 X1 X2
                  have X0 := b8.cell 0
                  have X1 := b8.cell 1
                  have X2 := b8.cell 2
                  simp only [List.getElem?_cons_zero, List.getElem?_cons_succ] at X0 X1 X2
                  clear b8
                  go_wp2_with fail
                  refine (ocfbDecrypt_any (xss := cuts xss Y) (vs := vs8) (pre := pre) rs HRI.out HML.out (RP.out.keep CR.out) (RS.out.keep CR.out) (RM.out.keep CR.out) HB.out.2.1 HB.out.2.2.1 m2 RG8.out HPL.out HPB.out HV8L.out HRR8.out HA8.out (fun j h h' => (HPZ8.out j h h').mono (fun _ _ _ => trivial)) HCB.out (by rw [cuts_length, HXL.out]; omega) HCL8.out).mono ?_
                  rintro e9 w9 ⟨v0, v1, rfl, ho9, hrw9, hc9⟩
                  rw [← HST.out] at hrw9
                  have hun : unPre (encL perm sub mask) mn pre = rand ++ rand.drop (mn - 2) := by
                    rw [HPRE.out]
                    exact unPre_ofPre HEB.out m2 HRL.out.symm HB.out.2.2.2.1
                  rw [hun] at ho9
                  obtain ⟨m0, hm0⟩ : ∃ m0, m0 = mn - 2 := ⟨_, rfl⟩
                  rw [← hm0] at ho9
                  have HM0 : As (m0 + 2 = mn) := ⟨by omega⟩
                  have hln : (rand ++ rand.drop m0).length = mn + 2 := by rw [List.length_append, List.length_drop, ← HRL.out]; omega
                  have HLN := As.mk hln
                  obtain ⟨A9, c9, hv9, _, hr9, _⟩ := own_form ho9
                  rw [hln] at hv9
                  subst hv9
                  have R9 := As.mk hr9
                  obtain ⟨A10, c10, vs10, hv10, _, hrr10, _, _, _⟩ := hrw9.row (by rw [outsD_length, cuts_length, HXL.out]; omega)
                  rw [outsD_length, cuts_length, HXL.out] at hv10
                  subst hv10
                  have HRR10 := As.mk hrr10
                  have HV10L : As (k = vs10.length) := ⟨by rw [hrr10.2.1, outsD_length, cuts_length, HXL.out]⟩
                  have C9 := As.mk (CR.out.trans hc9 (fun _ _ e => e))
                  have HFL10 : As ((outsD (encL perm sub mask) mn st (cuts xss Y)).flatten = J) := ⟨by rw [outsD_flat, HFL.out, HY.out]; exact outD_outE HE.out HEB.out (by omega) J st HOK.out HJB.out⟩
                  have HLENS : As (∀ j (h : j < vs10.length) (h2 : j < vs.length), vs10[j].2.1 = vs[j].2.1) := ⟨fun j h h2 => by
                    have e1 := (HRR10.out.2.2 j h (by rw [← HRR10.out.2.1]; exact h)).1
                    have e2 := (RT.out.2.2 j h2 (by rw [← RT.out.2.1]; exact h2)).1
                    rw [e1, e2]
                    exact lens_at ((outsD_lens _ _).trans (cuts_lens xss Y (by rw [HYL.out, HLL.out]))) j _ _⟩
                  have hm0i : (mn : Int) - 2 = (m0 : Int) := sub2_int HM0.out
                  have hm0w : IntKind.i64.wrap (m0 : Int) = (m0 : Int) := by simp [IntKind.wrap, IntKind.bits, IntKind.signed]; omega
                  have hrc' := HRC.out
                  obtain ⟨A11, _, hA11, hR11⟩ := cut_from (P := Try.prog) 22 5 Try.underlying22 size8 RA mn rc (m0 : Int) .i64 2 (rc - m0) (by omega) (by omega) (by omega) hrc'
                  have e11 : A11 = RA.map (fun x => x.add m0) := by
                    have := hA11 (by omega)
                    rwa [Int.toNat_natCast] at this
                  subst e11
                  have R11 : As (Rb w9 (RA.map (fun x => x.add m0)) (rand.drop m0)) := ⟨by have := hR11 w9 .u8 rand HRL.out.symm (RR.out.keep C9.out); rwa [Int.toNat_natCast] at this⟩
                  have HDL : As (2 = (rand.drop m0).length) := ⟨by rw [List.length_drop, ← HRL.out]; have := HM0.out; omega⟩
                  have HBZ : As (Chg NoB w9 w9) := ⟨Chg.refl _ _⟩
                  clear hun hm0 hln ho9 hr9 hrw9 hrr10 hc9 hR11 hA11 X0 X1 X2
                  go_wp2_with fail
                  go_region_held3 (fun _ => True) (trivial) (first
                    | (refine step_append_e_w (N := 108) rfl rfl _ _ 22 rfl 5 .u8 1 Try.underlying22 info8 (by decide) _ w9.heap.size rand RA mn rc rfl rfl HRL.out ?r1 ?r2 ?r3 ?_
                       case r1 => exact RR.out.keep (Chg.trans (S' := NoB) C9.out (by repeat (first | (with_reducible exact HBZ.out) | (with_reducible apply Chg.drew) | (with_reducible apply Chg.drewN) | (with_reducible apply Chg.alloc))) (fun _ _ e => e))
                       case r2 => exact Chg.size (S := NoB) (w := w9) (by repeat (first | (with_reducible exact HBZ.out) | (with_reducible apply Chg.drew) | (with_reducible apply Chg.drewN) | (with_reducible apply Chg.alloc)))
                       case r3 => (rw [← HRL.out]; omega)
                       intro v12 w12 ho12 hc12
                       have O12 := As.mk ho12
                       have HBZ12 : As (Chg NoB w9 w12) := ⟨Chg.trans (S' := NoB) (by repeat (first | (with_reducible exact HBZ.out) | (with_reducible apply Chg.drew) | (with_reducible apply Chg.drewN) | (with_reducible apply Chg.alloc))) hc12 (fun _ _ e => e)⟩
                       clear HBZ ho12 hc12
                       have HBZ := HBZ12
                       clear HBZ12)
                    | (refine step_append_ow_w (N := 113) rfl rfl _ _ 22 rfl 5 .u8 1 Try.underlying22 info8 (by decide) v12 w9.heap.size rand (rand.drop m0) (RA.map (fun x => x.add m0)) 2 (rc - m0) rfl rfl HDL.out ?r0 ?r1 ?r2 ?r3 ?_
                       case r0 => exact ow_keep O12.out (by repeat (first | exact Chg.refl _ _ | (with_reducible apply Chg.drew) | (with_reducible apply Chg.alloc)))
                       case r1 => exact R11.out.keep (by repeat (first | (with_reducible exact HBZ.out) | (with_reducible apply Chg.drew) | (with_reducible apply Chg.drewN) | (with_reducible apply Chg.alloc)))
                       case r2 => exact Chg.size (S := NoB) (w := w9) (by repeat (first | (with_reducible exact HBZ.out) | (with_reducible apply Chg.drew) | (with_reducible apply Chg.drewN) | (with_reducible apply Chg.alloc)))
                       case r3 => (rw [← HRL.out, ← HDL.out]; omega)
                       intro v13 w13 ho13 hc13
                       obtain ⟨A13, c13, hv13, _, hr13⟩ := ow_form ho13
                       rw [HLN.out] at hv13
                       subst hv13
                       have R13 := As.mk hr13
                       have HBZ13 : As (Chg NoB w9 w13) := ⟨Chg.over (w1 := _) (by repeat (first | (with_reducible exact HBZ.out) | (with_reducible apply Chg.drew) | (with_reducible apply Chg.drewN) | (with_reducible apply Chg.alloc))) hc13 (Nat.le_refl _)⟩
                       clear HBZ ho13 hc13 hr13
                       have HBZ := HBZ13
                       clear HBZ13)
                    | (go_at_call 11
                       with_reducible refine (same_yes A9 (mn + 2) c9 _ A13 (mn + 2) c13 _ HLN.out.symm HLN.out.symm (R9.out.keep (by repeat (first | (with_reducible exact HBZ.out) | (with_reducible apply Chg.drew) | (with_reducible apply Chg.drewN) | (with_reducible apply Chg.alloc)))) (R13.out.keep (by repeat (first | exact Chg.refl _ _ | (with_reducible apply Chg.drew) | (with_reducible apply Chg.alloc))))).mono ?_
                       rintro e ww ⟨rfl, mm, hww⟩
                       have HBZ14 : As (Chg NoB w9 ww) := ⟨by rw [hww]; exact Chg.drewN (by repeat (first | (with_reducible exact HBZ.out) | (with_reducible apply Chg.drew) | (with_reducible apply Chg.drewN) | (with_reducible apply Chg.alloc))) mm⟩
                       clear HBZ hww
                       have HBZ := HBZ14
                       clear HBZ14)
                    | (go_at_call 25
                       refine (alike_yes A10 k c10 vs10 A tc vs _ HV10L.out HTN.out (HRR10.out.keep (by repeat (first | (with_reducible exact HBZ.out) | (with_reducible apply Chg.drew) | (with_reducible apply Chg.drewN) | (with_reducible apply Chg.alloc)))).1 (RT.out.keep (Chg.trans (S' := NoB) C9.out (by repeat (first | (with_reducible exact HBZ.out) | (with_reducible apply Chg.drew) | (with_reducible apply Chg.drewN) | (with_reducible apply Chg.alloc))) (fun _ _ e => e))).1 HLENS.out).mono ?_
                       rintro e ww ⟨rfl, mm, hww⟩
                       have HBZ14 : As (Chg NoB w9 ww) := ⟨by rw [hww]; exact Chg.drewN (by repeat (first | (with_reducible exact HBZ.out) | (with_reducible apply Chg.drew) | (with_reducible apply Chg.drewN) | (with_reducible apply Chg.alloc))) mm⟩
                       clear HBZ hww
                       have HBZ := HBZ14
                       clear HBZ14)
                    | (go_at_call 23
                       with_reducible refine (joinedTexts_any A10 k c10 vs10 _ _ HV10L.out (HRR10.out.keep ?r1) ?r2).mono ?_
                       case r1 => exact (by repeat (first | (with_reducible exact HBZ.out) | (with_reducible apply Chg.drew) | (with_reducible apply Chg.drewN) | (with_reducible apply Chg.alloc)))
                       case r2 => (rw [HFL10.out, ← HJL.out]; omega)
                       rintro e w15 ⟨v15, rfl, ho15, hc15⟩
                       rw [HFL10.out] at ho15
                       obtain ⟨A15, c15, hv15, _, hr15, _⟩ := own_form ho15
                       rw [← HJL.out] at hv15
                       subst hv15
                       have R15 := As.mk hr15
                       have HBZ15 : As (Chg NoB w9 w15) := ⟨Chg.trans (S' := NoB) (by repeat (first | (with_reducible exact HBZ.out) | (with_reducible apply Chg.drew) | (with_reducible apply Chg.drewN) | (with_reducible apply Chg.alloc))) hc15 (fun _ _ e => e)⟩
                       clear HBZ ho15 hc15 hr15
                       have HBZ := HBZ15
                       clear HBZ15)
                    | (go_at_call 23
                       with_reducible refine (joinedTexts_any A k tc vs xss _ HTN.out (RT.out.keep (Chg.trans (S' := NoB) C9.out ?r1 (fun _ _ e => e))) ?r2).mono ?_
                       case r1 => exact (by repeat (first | (with_reducible exact HBZ.out) | (with_reducible apply Chg.drew) | (with_reducible apply Chg.drewN) | (with_reducible apply Chg.alloc)))
                       case r2 => (rw [HLL.out]; omega)
                       rintro e w16 ⟨v16, rfl, ho16, hc16⟩
                       rw [← HJ.out] at ho16
                       obtain ⟨A16, c16, hv16, _, hr16, _⟩ := own_form ho16
                       rw [← HJL.out] at hv16
                       subst hv16
                       have R16 := As.mk hr16
                       have R15b := As.mk (R15.out.keep (Chg.trans (S' := NoB) (S := NoB) (by repeat (first | exact Chg.refl _ _ | (with_reducible apply Chg.drew) | (with_reducible apply Chg.alloc))) hc16 (fun _ _ e => e)))
                       have HBZ16 : As (Chg NoB w9 w16) := ⟨Chg.trans (S' := NoB) (by repeat (first | (with_reducible exact HBZ.out) | (with_reducible apply Chg.drew) | (with_reducible apply Chg.drewN) | (with_reducible apply Chg.alloc))) hc16 (fun _ _ e => e)⟩
                       clear HBZ ho16 hc16 hr16
                       have HBZ := HBZ16
                       clear HBZ16)
                    | (go_at_call 11
                       with_reducible refine (same_yes A15 L c15 J A16 L c16 _ HJL.out HJL.out (R15b.out.keep (by repeat (first | exact Chg.refl _ _ | (with_reducible apply Chg.drew) | (with_reducible apply Chg.alloc)))) (R16.out.keep (by repeat (first | exact Chg.refl _ _ | (with_reducible apply Chg.drew) | (with_reducible apply Chg.alloc))))).mono ?_
                       rintro e ww ⟨rfl, mm, hww⟩
                       have HBZ17 : As (Chg NoB w9 ww) := ⟨by rw [hww]; exact Chg.drewN (by repeat (first | (with_reducible exact HBZ.out) | (with_reducible apply Chg.drew) | (with_reducible apply Chg.drewN) | (with_reducible apply Chg.alloc))) mm⟩
                       clear HBZ hww
                       have HBZ := HBZ17
                       clear HBZ17))
                  all_goals
                    go_wp2_with fail
                    go_ret
                    exact ⟨rfl, Chg.below (C9.out.trans HBZ.out (fun _ _ e => e)) (Nat.le_refl _) (fun _ _ e => e)⟩
        · have HFB := As.mk (decide_eq_false hfb)
          clear hf hg hfb
          go_enter Try.func6, Try.ntmps6
          go_upto_region 1 with fail
          rw [← hw0]
          clear hw0
          go_wp2_with (first
            | (with_reducible refine (fits27_any PA pn pc SA sn sc MA mn mc w0).mono ?_
               rintro e1 w1 ⟨he, hc1⟩
               rw [HF.out] at he
               subst he
               have C1 := As.mk (C0.out.trans hc1 (fun _ _ e => e))
               have B1 := As.mk (B0.out.chg hc1 (fun e => e))
               clear hc1 X0 X1 X2 B0
               have X0 := B1.out.cell 0
               have X1 := B1.out.cell 1
               have X2 := B1.out.cell 2
               simp only [List.getElem?_cons_zero, List.getElem?_cons_succ] at X0 X1 X2)
            | (with_reducible go_at_call 20
               go_must (refine (fits2_all A tn tc vs w1 HTN.out (RT.out.keep C1.out).1).mono ?_)
               rintro e2 w2 ⟨he, rfl⟩
               rw [HG.out] at he
               subst he))
          refine (feedable_any (L := L) HP.out HS.out (RP.out.keep C1.out) (RS.out.keep C1.out) HB.out.1 HB.out.2.1 HTN.out (RT.out.keep C1.out) HLL.out HJB.out).mono ?_
          rintro e3 w3 ⟨he, hc3⟩
          rw [HFB.out] at he
          subst he
          have C3 := As.mk (C1.out.trans hc3 (fun _ _ e => e))
          have B3 := As.mk (B1.out.chg hc3 (fun e => e))
          go_wp2_with fail
          go_ret
          exact ⟨rfl, C3.out.below (Nat.le_refl _) (fun _ _ e => e)⟩
      · have HG := As.mk (decide_eq_false hg)
        clear hf hg
        go_enter Try.func6, Try.ntmps6
        go_upto_region 1 with fail
        rw [← hw0]
        clear hw0
        go_wp2_with (first
          | (with_reducible refine (fits27_any PA pn pc SA sn sc MA mn mc w0).mono ?_
             rintro e1 w1 ⟨he, hc1⟩
             rw [HF.out] at he
             subst he
             have C1 := As.mk (C0.out.trans hc1 (fun _ _ e => e))
             have B1 := As.mk (B0.out.chg hc1 (fun e => e))
             clear hc1 X0 X1 X2 B0
             have X0 := B1.out.cell 0
             have X1 := B1.out.cell 1
             have X2 := B1.out.cell 2
             simp only [List.getElem?_cons_zero, List.getElem?_cons_succ] at X0 X1 X2)
          | (with_reducible go_at_call 20
             go_must (refine (fits2_all A tn tc vs w1 HTN.out (RT.out.keep C1.out).1).mono ?_)
             rintro e2 w2 ⟨he, rfl⟩
             rw [HG.out] at he
             subst he))
        go_ret
        exact ⟨rfl, C1.out.below (Nat.le_refl _) (fun _ _ e => e)⟩
    · have hx1 : ((rn : Int) > 2147483647) := by omega
      clear hf
      go_enter Try.func6, Try.ntmps6
      go_upto_region 1 with fail
      rw [← hw0]
      clear hw0
      go_wp2_with (first
        | (with_reducible refine (fits27_any PA pn pc SA sn sc MA mn mc w0).mono ?_
           rintro e1 w1 ⟨he, hc1⟩
           rw [HF.out] at he
           subst he
           have C1 := As.mk (C0.out.trans hc1 (fun _ _ e => e))
           have B1 := As.mk (B0.out.chg hc1 (fun e => e))
           clear hc1 X0 X1 X2 B0
           have X0 := B1.out.cell 0
           have X1 := B1.out.cell 1
           have X2 := B1.out.cell 2
           simp only [List.getElem?_cons_zero, List.getElem?_cons_succ] at X0 X1 X2))
      go_ret
      exact ⟨rfl, C1.out.below (Nat.le_refl _) (fun _ _ e => e)⟩
  · have HF := As.mk (decide_eq_false hf)
    clear hf
    go_enter Try.func6, Try.ntmps6
    go_upto_region 1 with fail
    rw [← hw0]
    clear hw0
    go_wp2_with (first
      | (with_reducible refine (fits27_any PA pn pc SA sn sc MA mn mc w0).mono ?_
         rintro e1 w1 ⟨he, hc1⟩
         rw [HF.out] at he
         subst he
         have C1 := As.mk (C0.out.trans hc1 (fun _ _ e => e))
         have B1 := As.mk (B0.out.chg hc1 (fun e => e))
         clear hc1 X0 X1 X2 B0
         have X0 := B1.out.cell 0
         have X1 := B1.out.cell 1
         have X2 := B1.out.cell 2
         simp only [List.getElem?_cons_zero, List.getElem?_cons_succ] at X0 X1 X2))
    go_ret
    exact ⟨rfl, C1.out.below (Nat.le_refl _) (fun _ _ e => e)⟩
theorem fnOcfbBack_walk (PA : Option Addr) (pc : Nat) (perm : List Int) (SA : Option Addr) (sc : Nat) (sub : List Int) (MA : Option Addr) (mc : Nat) (mask : List Int) (RA : Option Addr) (rc : Nat) (rand : List Int) (rs : Bool) (A : Option Addr) (tn tc : Nat) (vs : List Sl) (xss : List (List Int)) (W : World)
    (rp : Rk .u8 W PA perm) (bp : Byt perm) (rsu : Rk .u8 W SA sub) (bs : Byt sub) (rm : Rk .u8 W MA mask) (bm : Byt mask) (rr : Rk .u8 W RA rand) (hrc : rand.length ≤ rc) (br : Byt rand) (lr : rand.length ≤ 140737488351232) (htn : tn = vs.length) (hrr : Rrs W A vs xss) (hby : Byt xss.flatten) :
    Calls Try.prog 6 #[.agg #[.slice PA perm.length pc, .slice SA sub.length sc, .slice MA mask.length mc], .slice RA rand.length rc, .bool rs, .slice A tn tc] W fun e w' => e = .returned (.bool true) ∧ Below W.heap.size W w' :=
  fnOcfbBack_main rs rfl rfl rfl rp rsu rm bp bs bm rr rfl br hrc htn hrr hby rfl
end Go.Proofs.Ytnhnfhdbbebclaa
