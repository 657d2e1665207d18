/- The contract of impl.cipherOf: a block cipher of plain data as the package has it. -/
import Derived.Test.YtlpningplmbnhaaDoorBlk1
import Derived.Test.YtlpningplmbnhaaDoorRow
import Derived.Deep.RegionHeld3
import Derived.Deep.DeepCutAuto
set_option linter.unusedVariables false
set_option linter.unusedSimpArgs false
namespace Go.Proofs.YtlpningplmbnhaaDoor
open Go.RowKit V
/-- A block cipher in block B; all that it is lies in blocks from lo to hi. -/
def Cph (w : World) (lo hi B : Nat) (perm sub mask : List Int) : Prop :=
  (∃ PA pc SA sc MA mc bk, Blk w B 62 (.slice PA perm.length pc :: .slice SA sub.length sc :: .slice MA mask.length mc :: bk) ∧
    Rf (fun b => lo ≤ b ∧ b < hi) w PA perm ∧ Rf (fun b => lo ≤ b ∧ b < hi) w SA sub ∧ Rf (fun b => lo ≤ b ∧ b < hi) w MA mask) ∧ lo ≤ B ∧ B < hi
theorem Cph.chg {w w' : World} {S : Nat → Prop} {lo hi B : Nat} {perm sub mask : List Int} (h : Cph w lo hi B perm sub mask) (hc : Chg S w w') (hs : ∀ b, lo ≤ b → b < hi → ¬ S b) : Cph w' lo hi B perm sub mask := by
  obtain ⟨⟨PA, pc, SA, sc, MA, mc, bk, hb, h1, h2, h3⟩, h4, h5⟩ := h
  exact ⟨⟨PA, pc, SA, sc, MA, mc, bk, hb.chg hc (hs B h4 h5), h1.chg hc (fun b _ hf => hs b hf.1 hf.2), h2.chg hc (fun b _ hf => hs b hf.1 hf.2), h3.chg hc (fun b _ hf => hs b hf.1 hf.2)⟩, h4, h5⟩
theorem Cph.keep {w w' : World} {lo hi B : Nat} {perm sub mask : List Int} (h : Cph w lo hi B perm sub mask) (hc : Chg NoB w w') : Cph w' lo hi B perm sub mask := h.chg hc (fun _ _ _ e => e)
theorem Cph.hi_le {w : World} {lo hi B : Nat} {perm sub mask : List Int} (h : Cph w lo hi B perm sub mask) : lo ≤ B ∧ B < hi := h.2
abbrev cphV (B : Nat) : Value := .iface 59 (.pointer (some ⟨B, 0, none⟩))
theorem zeroBlock (a b c : Value) : ((Tryd.zeroCells62.setIfInBounds 0 a).setIfInBounds 1 b).setIfInBounds 2 c = (a :: b :: c :: nums .u8 (List.replicate 256 0)).toArray := by
  have h : Tryd.zeroCells62 = (.slice none 0 0 :: .slice none 0 0 :: .slice none 0 0 :: nums .u8 (List.replicate 256 0)).toArray := by kernel_rfl
  rw [h]
  generalize nums .u8 (List.replicate 256 0) = r
  simp
/-- What cipherOf answers. -/
def CphOf (w : World) (perm sub mask : List Int) (e : Ending) (w' : World) : Prop :=
  Chg NoB w w' ∧ ∃ lo hi B, e = .returned (cphV B) ∧ w.heap.size ≤ lo ∧ hi ≤ w'.heap.size ∧ Cph w' lo hi B perm sub mask
set_option maxRecDepth 100000 in
set_option maxHeartbeats 4000000 in
theorem cipherOf_any (PA0 : Option Addr) (pn pc0 : Nat) (SA0 : Option Addr) (sc0 : Nat) (MA0 : Option Addr) (mn mc0 : Nat) (perm sub mask : List Int) (w : World) (hp : perm.length = pn) (hs : sub.length = 256) (hm : mask.length = mn) (n2 : mn ≤ 32) (n3 : pn ≤ 32) (rp : Rb w PA0 perm) (rs : Rb w SA0 sub) (rm : Rb w MA0 mask) (bs : Byt sub) :
    Calls Tryd.prog 14 #[blkV PA0 pn pc0 SA0 256 sc0 MA0 mn mc0] w (CphOf w perm sub mask) := by
  have RP := As.mk rp
  have RS := As.mk rs
  have RM := As.mk rm
  have HLP : As (pn = perm.length) := ⟨hp.symm⟩
  have HLS : As (256 = sub.length) := ⟨hs.symm⟩
  have HLM : As (mn = mask.length) := ⟨hm.symm⟩
  have HBY := As.mk bs
  clear rp rs rm hp hs hm bs
  unfold blkV
  go_enter Tryd.func14, Tryd.ntmps14
  go_upto_region 1 with fail
  obtain ⟨w1, hw1⟩ : ∃ w1, w1 = w.alloc (.cells #[.slice PA0 pn pc0, .slice SA0 256 sc0, .slice MA0 mn mc0] 24) := ⟨_, rfl⟩
  have C1 : As (Chg NoB w w1) := ⟨by rw [hw1]; exact (Chg.refl NoB w).alloc _⟩
  have b1 : Blk w1 w.heap.size 24 [.slice PA0 pn pc0, .slice SA0 256 sc0, .slice MA0 mn mc0] := by rw [hw1]; exact Blk.new w _ [.slice PA0 pn pc0, .slice SA0 256 sc0, .slice MA0 mn mc0]
  have BK1 := As.mk b1
  rw [← hw1]
  clear hw1
  have KQ : As (∀ w', Chg NoB w1 w' → w'.cell? ⟨w.heap.size, 0, none⟩ = some (.slice PA0 pn pc0) ∧ w'.cell? ⟨w.heap.size, 1, none⟩ = some (.slice SA0 256 sc0) ∧ w'.cell? ⟨w.heap.size, 2, none⟩ = some (.slice MA0 mn mc0)) := ⟨fun w' h => by
    have b := BK1.out.chg h (fun e => e)
    exact ⟨b.cell 0, b.cell 1, b.cell 2⟩⟩
  have hq := KQ.out _ (Chg.refl _ _)
  have q0 := hq.1
  have q1 := hq.2.1
  have q2 := hq.2.2
  have HB : As (Chg NoB w1 w1) := ⟨Chg.refl _ _⟩
  clear b1 hq
  go_cut [3] (fun s3 wx => ∃ (d : Nat) (PA : Option Addr) (pc : Nat) (SA : Option Addr) (sc : Nat) (MA : Option Addr) (mc : Nat), s3 = .pointer (some ⟨d, 0, none⟩) ∧ As (Chg NoB w1 wx) ∧ As (w.heap.size ≤ d ∧ d < wx.heap.size) ∧
    As (Blk wx d 62 (.slice PA pn pc :: .slice SA 256 sc :: .slice MA mn mc :: nums .u8 (List.replicate 256 0))) ∧ As (Rf (fun b => w.heap.size < b ∧ b < d) wx PA perm) ∧ As (Rf (fun b => w.heap.size < b ∧ b < d) wx SA sub) ∧ As (Rf (fun b => w.heap.size < b ∧ b < d) wx MA mask))
  case first =>
    go_region_held3 (fun w' => w'.cell? ⟨w.heap.size, 0, none⟩ = some (.slice PA0 pn pc0) ∧ w'.cell? ⟨w.heap.size, 1, none⟩ = some (.slice SA0 256 sc0) ∧ w'.cell? ⟨w.heap.size, 2, none⟩ = some (.slice MA0 mn mc0)) (exact KQ.out _ (by repeat (first | (with_reducible exact HB.out) | (with_reducible apply Chg.drew) | (with_reducible apply Chg.alloc)))) (first
      | (refine step_append_e (N := 8) rfl rfl _ _ 22 rfl 5 .u8 1 Tryd.underlying22 info8 (by decide) none (w.heap.size + 1) perm PA0 pn pc0 rfl rfl HLP.out ((RP.out.keep C1.out).keep ?r1) ?r2 ?r3 ?_
         case r1 => exact (by repeat (first | (with_reducible exact HB.out) | (with_reducible apply Chg.drew) | (with_reducible apply Chg.alloc)))
         case r2 => exact Nat.le_trans BK1.out.lt (Chg.size (S := NoB) (by repeat (first | (with_reducible exact HB.out) | (with_reducible apply Chg.drew) | (with_reducible apply Chg.alloc))))
         case r3 => (have := HLP.out; omega)
         intro v8 w8 ho8 hc8
         obtain ⟨A8, c8, hv8, _, _⟩ := ow_form ho8
         rw [← HLP.out] at hv8
         subst hv8
         have HO8 := As.mk (Rf.of_ow ho8 (Nat.le_refl _))
         have HB8 : As (Chg NoB w1 w8) := ⟨Chg.trans (by repeat (first | (with_reducible exact HB.out) | (with_reducible apply Chg.drew) | (with_reducible apply Chg.alloc))) hc8 (fun _ _ e => e)⟩
         clear HB ho8 hc8
         have HB := HB8
         clear HB8)
      | (refine step_append_e (N := 11) rfl rfl _ _ 22 rfl 5 .u8 1 Tryd.underlying22 info8 (by decide) none (w.heap.size + 1) sub SA0 256 sc0 rfl rfl HLS.out ((RS.out.keep C1.out).keep ?r1) ?r2 ?r3 ?_
         case r1 => exact (by repeat (first | (with_reducible exact HB.out) | (with_reducible apply Chg.drew) | (with_reducible apply Chg.alloc)))
         case r2 => exact Nat.le_trans BK1.out.lt (Chg.size (S := NoB) (by repeat (first | (with_reducible exact HB.out) | (with_reducible apply Chg.drew) | (with_reducible apply Chg.alloc))))
         case r3 => (have := HLS.out; omega)
         intro v11 w11 ho11 hc11
         obtain ⟨A11, c11, hv11, _, _⟩ := ow_form ho11
         rw [← HLS.out] at hv11
         subst hv11
         have HO11 := As.mk (Rf.of_ow ho11 (Nat.le_refl _))
         have HO8b := As.mk (HO8.out.keep (Chg.trans (S := NoB) (by repeat (first | exact Chg.refl _ _ | (with_reducible apply Chg.drew) | (with_reducible apply Chg.alloc))) hc11 (fun _ _ e => e)))
         have HB11 : As (Chg NoB w1 w11) := ⟨Chg.trans (by repeat (first | (with_reducible exact HB.out) | (with_reducible apply Chg.drew) | (with_reducible apply Chg.alloc))) hc11 (fun _ _ e => e)⟩
         clear HB ho11 hc11 HO8
         have HB := HB11
         clear HB11)
      | (refine step_append_e (N := 14) rfl rfl _ _ 22 rfl 5 .u8 1 Tryd.underlying22 info8 (by decide) none (w.heap.size + 1) mask MA0 mn mc0 rfl rfl HLM.out ((RM.out.keep C1.out).keep ?r1) ?r2 ?r3 ?_
         case r1 => exact (by repeat (first | (with_reducible exact HB.out) | (with_reducible apply Chg.drew) | (with_reducible apply Chg.alloc)))
         case r2 => exact Nat.le_trans BK1.out.lt (Chg.size (S := NoB) (by repeat (first | (with_reducible exact HB.out) | (with_reducible apply Chg.drew) | (with_reducible apply Chg.alloc))))
         case r3 => (have := HLM.out; omega)
         intro v14 w14 ho14 hc14
         obtain ⟨A14, c14, hv14, _, _⟩ := ow_form ho14
         rw [← HLM.out] at hv14
         subst hv14
         have HO14 := As.mk (Rf.of_ow ho14 (Nat.le_refl _))
         have HO8c := As.mk (HO8b.out.keep (Chg.trans (S := NoB) (by repeat (first | exact Chg.refl _ _ | (with_reducible apply Chg.drew) | (with_reducible apply Chg.alloc))) hc14 (fun _ _ e => e)))
         have HO11b := As.mk (HO11.out.keep (Chg.trans (S := NoB) (by repeat (first | exact Chg.refl _ _ | (with_reducible apply Chg.drew) | (with_reducible apply Chg.alloc))) hc14 (fun _ _ e => e)))
         have HB14 : As (Chg NoB w1 w14) := ⟨Chg.trans (by repeat (first | (with_reducible exact HB.out) | (with_reducible apply Chg.drew) | (with_reducible apply Chg.alloc))) hc14 (fun _ _ e => e)⟩
         clear HB ho14 hc14
         have HB := HB14
         clear HB14))
    all_goals
      go_wp2_with fail
      go_meet
      rw [zeroBlock]
      have hal : Chg NoB w14 (w14.alloc (.cells (.slice A8 pn c8 :: .slice A11 256 c11 :: .slice A14 mn c14 :: nums .u8 (List.replicate 256 0)).toArray 62)) := (Chg.refl NoB w14).alloc _
      have hz : (w14.alloc (.cells (.slice A8 pn c8 :: .slice A11 256 c11 :: .slice A14 mn c14 :: nums .u8 (List.replicate 256 0)).toArray 62)).heap.size = w14.heap.size + 1 := Array.size_push _
      have hsz : w.heap.size < w14.heap.size := Nat.lt_of_lt_of_le BK1.out.lt HB.out.size
      refine ⟨w14.heap.size, A8, c8, A11, c11, A14, c14, rfl, ⟨HB.out.trans hal (fun _ _ e => e)⟩, ⟨by omega, by omega⟩, ⟨Blk.new w14 _ _⟩, ⟨?_⟩, ⟨?_⟩, ⟨?_⟩⟩
      · exact (HO8c.out.mono (fun b hb h => ⟨h, hb⟩)).keep hal
      · exact (HO11b.out.mono (fun b hb h => ⟨h, hb⟩)).keep hal
      · exact (HO14.out.mono (fun b hb h => ⟨h, hb⟩)).keep hal
  case rest =>
    obtain ⟨d, PA, pc, SA, sc, MA, mc, rfl, CX, HD, HBL, H8, H11, H14⟩ := hcut
    have hq := KQ.out _ CX.out
    clear q0 q1 q2 KQ HB
    have q1 := hq.2.1
    clear hq
    go_wp2
    go_loopw [21] (fun i wr => ∃ (k : Nat) (bk : List Int), k ≤ 256 ∧ i = .int .i64 k ∧ bk.length = 256 ∧ As (Blk wr d 62 (.slice PA pn pc :: .slice SA 256 sc :: .slice MA mn mc :: nums .u8 bk)) ∧ As (Chg (fun b => b = d) wc wr)) (fun i _ => 256 - (intOf i).toNat)
    case atStart => exact ⟨0, List.replicate 256 0, Nat.zero_le _, rfl, by simp, HBL, ⟨Chg.refl _ _⟩⟩
    case round =>
      obtain ⟨k, bk, hk, rfl, hbk, HB, HC⟩ := hrel
      by_cases hlt : k < 256
      · have hlt2 : (k : Int) < 256 := by omega
        have rs2 := ((RS.out.keep C1.out).keep CX.out).chg HC.out (fun ad e hb h => by
          have hl := RS.out
          obtain ⟨ad', e', hb', _⟩ := RS.out.2 (by have := HLS.out; omega)
          rw [e] at e'; injection e' with e'; subst e'
          have := HD.out.1
          have h2 : ad.block = d := h
          have h3 : w.heap.size < d ∨ d = w.heap.size := by omega
          omega)
        obtain ⟨ad, rfl, hc⟩ := rs2.at_ (k : Int) (by omega) (by have := HLS.out; omega)
        rw [Int.toNat_natCast] at hc
        obtain ⟨b0, b1⟩ := HBY.out.rd (k : Int)
        obtain ⟨q, hq⟩ := Int.eq_ofNat_of_zero_le b0
        rw [hq] at hc b1
        have p1 : q < 256 := by omega
        have p2 : (q : Int) < 256 := by omega
        have hset := HB.out.set_ (3 + q) (.int .u8 (k : Int))
        have hset2 : Blk (wr.setCell ⟨d, 3 + q, none⟩ (.int .u8 (k : Int))) d 62 (.slice PA pn pc :: .slice SA 256 sc :: .slice MA mn mc :: nums .u8 (bk.set q (k : Int))) := by
          have e : (Value.slice PA pn pc :: Value.slice SA 256 sc :: Value.slice MA mn mc :: nums .u8 bk).set (3 + q) (.int .u8 (k : Int)) = Value.slice PA pn pc :: Value.slice SA 256 sc :: Value.slice MA mn mc :: nums .u8 (bk.set q (k : Int)) := by
            rw [show 3 + q = q + 1 + 1 + 1 from by omega]
            simp only [List.set_cons_succ, nums_set]
          rw [← e]
          exact hset
        have HS := As.mk hset2
        have hcell := HB.out.cell (3 + q)
        have hcell2 : wr.cell? ⟨d, 3 + q, none⟩ = some (.int .u8 (bk.getD q 0)) := by
          rw [hcell, show 3 + q = q + 1 + 1 + 1 from by omega]
          simp only [List.getElem?_cons_succ]
          exact nums_get (by omega)
        have hfz := HB.out.frozen (3 + q)
        clear hset hset2 hcell hq b0
        go_wp2
        go_roundw
        case rel => exact ⟨k + 1, bk.set q (k : Int), by omega, by go_num, by rw [List.length_set]; exact hbk, HS, ⟨HC.out.setCell (p := ⟨d, 3 + q, none⟩) _ (fun _ => rfl)⟩⟩
        case measure => simp [intOf]; omega
      · obtain rfl : k = 256 := by omega
        go_wp2
        go_ret
        have hd := HD.out
        have hsz := HC.out.size
        have frame : ∀ b, w.heap.size < b ∧ b < d → ¬ b = d := fun b hb e => by omega
        refine ⟨(C1.out.trans CX.out (fun _ _ e => e)).trans HC.out (fun b hb e => by omega), w.heap.size, wr.heap.size, d, rfl, Nat.le_refl _, Nat.le_refl _, ⟨PA, pc, SA, sc, MA, mc, nums .u8 bk, ?_, ?_, ?_, ?_⟩, hd.1, by omega⟩
        · rw [← HLP.out, ← HLS.out, ← HLM.out]; exact HB.out
        · exact (H8.out.chg HC.out (fun b _ h => frame b h)).mono (fun b hb h => ⟨by omega, hb⟩)
        · exact (H11.out.chg HC.out (fun b _ h => frame b h)).mono (fun b hb h => ⟨by omega, hb⟩)
        · exact (H14.out.chg HC.out (fun b _ h => frame b h)).mono (fun b hb h => ⟨by omega, hb⟩)
end Go.Proofs.YtlpningplmbnhaaDoor
