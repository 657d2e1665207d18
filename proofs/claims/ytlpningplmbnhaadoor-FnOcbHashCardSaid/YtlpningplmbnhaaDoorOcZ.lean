/- The contracts of ocb.ZzHash and impl.OcbHash. -/
import Derived.Test.YtlpningplmbnhaaDoorOcW
set_option linter.unusedVariables false
set_option linter.unusedSimpArgs false
namespace Go.Proofs.YtlpningplmbnhaaDoor
open Go.RowKit V
set_option maxRecDepth 100000 in
set_option maxHeartbeats 1000000 in
theorem zzHash_any {w : World} {lo hi B : Nat} {perm sub mask text : List Int} {TA : Option Addr} {tn tc : Nat} (hC : Cph w lo hi B perm sub mask) (hr : RightB perm sub 16) (hm : mask.length = 16) (bs : Byt sub) (bm : Byt mask) (ht : Tab w)
    (rt : Rb w TA text) (htn : tn = text.length) (bt : Byt text) (hl : tn ≤ 4096) (hhi : hi ≤ w.heap.size) :
    Calls Tryd.prog 13 #[cphV B, .slice TA tn tc] w (Gives NoB w (hashL perm sub mask text)) := by
  have CB := As.mk hC
  have HR := As.mk hr
  have HM := As.mk hm
  have HBY := As.mk (And.intro bs (And.intro bm bt))
  have HT := As.mk ht
  have RT := As.mk rt
  have HN := As.mk htn
  have HHI := As.mk hhi
  clear hC hr hm bs bm bt ht rt htn hhi
  go_enter Tryd.func13, Tryd.ntmps13
  go_wp2_with fail
  refine (mask_any CB.out HR.out HM.out HBY.out.1 HBY.out.2.1 HHI.out).mono ?_
  rintro e1 w1 ⟨gA, gD, cD, gL, rfl, hc1, hgA, hgA2, hra, hrw, hgL, hLA⟩
  have C1 := As.mk hc1
  have HG := As.mk (And.intro hgA (And.intro hgA2 (And.intro hgL hLA)))
  have RA := As.mk hra
  have RW := As.mk hrw
  clear hc1 hgA hgA2 hra hrw hgL hLA
  obtain ⟨w2, hw2⟩ : ∃ w2, w2 = w1.alloc (.cells #[cphV B, .int .i64 0, .int .i64 0, .slice (some ⟨gA, 0, none⟩) 16 16, .slice (some ⟨gD, 0, none⟩) 16 cD, .slice (some ⟨gL, 0, none⟩) 1 1, .slice none 0 0, .slice none 0 0] 58) := ⟨_, rfl⟩
  have C12 : As (Chg NoB w1 w2) := ⟨by rw [hw2]; exact (Chg.refl NoB w1).alloc _⟩
  have B2 : As (Blk w2 w1.heap.size 58 [cphV B, .int .i64 0, .int .i64 0, .slice (some ⟨gA, 0, none⟩) 16 16, .slice (some ⟨gD, 0, none⟩) 16 cD, .slice (some ⟨gL, 0, none⟩) 1 1, .slice none 0 0, .slice none 0 0]) := ⟨by rw [hw2]; exact Blk.new _ _ _⟩
  obtain ⟨OB, hOB⟩ : ∃ OB, OB = w1.heap.size := ⟨_, rfl⟩
  have HOB := As.mk hOB
  rw [← hOB] at B2
  go_wp2_with fail
  rw [← hw2, ← hOB]
  clear hw2 hOB
  have CC : As (Chg NoB w w2) := ⟨C1.out.trans C12.out (fun _ _ e => e)⟩
  have hR : Rws (fun b => w.heap.size ≤ b ∧ b ≠ gA ∧ b < OB) w2 w.heap.size 22 (.slice (some ⟨gL, 0, none⟩) 1 1) (lRow perm sub mask 1) :=
    (RW.out.mono (K' := fun b => w.heap.size ≤ b ∧ b ≠ gA ∧ b < OB) (fun b hb k => ⟨k.1, k.2, by have := HOB.out; omega⟩)).keep C12.out
  have hgL := (RW.out.lt gL rfl).2
  have HR2 := As.mk hR
  have HGL := As.mk hgL
  clear hR hgL
  refine (hash_any (K0 := fun b => w.heap.size ≤ b ∧ b ≠ gA ∧ b < OB) (bs := w.heap.size) (lo := lo) (hi := hi) (gA := gA) (vD := .slice (some ⟨gD, 0, none⟩) 16 cD) (CB.out.keep CC.out) HR.out HM.out HBY.out.1 HBY.out.2.1
    ⟨_, B2.out, HR2.out, fun b e => by injection e with e; have e2 : gL = b := e; have := HG.out; have := HGL.out; have := HOB.out; omega⟩
    (RA.out.keep C12.out) (HT.out.keep CC.out) (RT.out.keep CC.out) HN.out HBY.out.2.2 hl CC.out.size (fun k => by omega) (fun k => k.2.1 rfl) (fun b h1 h2 k => by have := HHI.out; omega) (fun k => by have := HT.out.2; omega) (by have := HHI.out; have := C1.out.size; have := HOB.out; omega) (by have := HG.out; have := HOB.out; omega) (by have := HT.out.2; have := C1.out.size; have := HOB.out; omega)).mono ?_
  rintro e3 w3 ⟨v3, rfl, ho3, hc3⟩
  have O3 := As.mk (own_lower (base' := w.heap.size) ho3 CC.out.size)
  have C3 : As (Chg NoB w w3) := ⟨CC.out.trans hc3 (fun b hb e => by have := HOB.out; have := C1.out.size; omega)⟩
  clear ho3 hc3
  go_wp2_with fail
  go_ret
  exact ⟨v3, rfl, O3.out, C3.out⟩
/-- A row of its own, and true. -/
def GivesOk (w : World) (xs : List Int) (e : Ending) (w' : World) : Prop :=
  ∃ v, e = .returned (.tuple #[v, .bool true]) ∧ Own w' w.heap.size 5 .u8 v xs ∧ Chg NoB w w'
set_option maxRecDepth 100000 in
set_option maxHeartbeats 1000000 in
theorem ocbHash_any (PA : Option Addr) (pn pc : Nat) (SA : Option Addr) (sn sc : Nat) (MA : Option Addr) (mn mc : Nat) (perm sub mask : List Int) (TA : Option Addr) (tn tc : Nat) (text : List Int) (w : World)
    (hp : pn = perm.length) (hs : sn = sub.length) (hm : mn = mask.length) (h16 : mn = 16) (rp : Rb w PA perm) (rs : Rb w SA sub) (rm : Rb w MA mask) (bs : Byt sub) (bm : Byt mask) (hr : RightB perm sub 16) (ht : Tab w)
    (rt : Rb w TA text) (htn : tn = text.length) (bt : Byt text) (hl : tn ≤ 4096) :
    Calls Tryd.prog 7 #[blkV PA pn pc SA sn sc MA mn mc, .slice TA tn tc] w (GivesOk w (hashL perm sub mask text)) := by
  subst h16
  have e1 : pn = 16 := by rw [hp]; exact hr.2.2.1.1
  have e2 : sn = 256 := by rw [hs]; exact hr.2.2.2.1
  subst e1
  subst e2
  have HR := As.mk hr
  have HP := As.mk hp
  have HS := As.mk hs
  have HM : As (mask.length = 16) := ⟨hm.symm⟩
  have HBY := As.mk (And.intro bs (And.intro bm bt))
  have RP := As.mk rp
  have RS := As.mk rs
  have RM := As.mk rm
  have RT := As.mk rt
  have HN := As.mk htn
  have HT := As.mk ht
  clear hr hp hs hm bs bm bt rp rs rm rt htn ht
  unfold blkV
  obtain ⟨w0, hw0⟩ : ∃ w0, w0 = w.alloc (.cells #[.slice PA 16 pc, .slice SA 256 sc, .slice MA 16 mc] 24) := ⟨_, rfl⟩
  have C0 : As (Chg NoB w w0) := ⟨by rw [hw0]; exact (Chg.refl NoB w).alloc _⟩
  have B0 : As (Blk w0 w.heap.size 24 [.slice PA 16 pc, .slice SA 256 sc, .slice MA 16 mc]) := ⟨by rw [hw0]; exact Blk.new _ _ _⟩
  go_enter Tryd.func7, Tryd.ntmps7
  go_upto_region 1 with fail
  rw [← hw0]
  have x0 := B0.out.cell 0
  have x1 := B0.out.cell 1
  have x2 := B0.out.cell 2
  simp only [List.getElem?_cons_zero, List.getElem?_cons_succ] at x0 x1 x2
  clear hw0
  go_wp2_with fail
  refine (blockRight_yes PA 16 pc SA 256 sc MA 16 mc perm sub w0 HP.out HS.out (RP.out.keep C0.out) (RS.out.keep C0.out) HR.out).mono ?_
  rintro e1 w1 ⟨rfl, hc1⟩
  have C1 := As.mk (C0.out.trans hc1 (fun _ _ e => e))
  have B1 := As.mk (B0.out.chg hc1 (fun e => e))
  clear hc1 x0 x1 x2 B0
  have x0 := B1.out.cell 0
  have x1 := B1.out.cell 1
  have x2 := B1.out.cell 2
  simp only [List.getElem?_cons_zero, List.getElem?_cons_succ] at x0 x1 x2
  go_wp2_with fail
  refine (cipherOf_any PA 16 pc SA sc MA 16 mc perm sub mask w1 HP.out.symm HS.out.symm HM.out (by omega) (by omega) (RP.out.keep C1.out) (RS.out.keep C1.out) (RM.out.keep C1.out) HBY.out.1).mono ?_
  rintro e2 w2 ⟨hc2, lo, hi, B, rfl, hlo, hhi, hcb⟩
  have C2 := As.mk (C1.out.trans hc2 (fun _ _ e => e))
  have CB := As.mk hcb
  have HHI := As.mk hhi
  clear hc2 hlo hhi hcb x0 x1 x2 B1
  go_wp2_with fail
  refine (own_any TA tn tc text w2 HN.out (RT.out.keep C2.out) (by have := HN.out; omega)).mono ?_
  rintro e3 w3 ⟨v3, rfl, ho3, hc3⟩
  obtain ⟨A3, c3, hv3, _, hr3, _⟩ := own_form ho3
  rw [← HN.out] at hv3
  subst hv3
  have R3 := As.mk hr3
  have C3 := As.mk (C2.out.trans hc3 (fun _ _ e => e))
  have CB3 := As.mk (CB.out.keep hc3)
  have HHI3 := As.mk (Nat.le_trans HHI.out hc3.size)
  clear ho3 hc3 hr3
  go_wp2_with fail
  refine (zzHash_any CB3.out HR.out HM.out HBY.out.1 HBY.out.2.1 (HT.out.keep C3.out) R3.out HN.out HBY.out.2.2 hl HHI3.out).mono ?_
  rintro e4 w4 ⟨v4, rfl, ho4, hc4⟩
  have O4 := As.mk (own_lower (base' := w.heap.size) ho4 C3.out.size)
  have C4 := As.mk (C3.out.trans hc4 (fun _ _ e => e))
  clear ho4 hc4
  go_wp2_with fail
  go_ret2
  exact ⟨v4, rfl, O4.out, C4.out⟩
end Go.Proofs.YtlpningplmbnhaaDoor
