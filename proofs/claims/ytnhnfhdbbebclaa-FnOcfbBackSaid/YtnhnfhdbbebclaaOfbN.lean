/- The contract of packet.NewOCFBEncrypter. -/
import Derived.Test.YtnhnfhdbbebclaaOfb
import Derived.Test.YtnhnfhdbbebclaaOfbQ
import Derived.Deep.RegionHeld3
set_option linter.unusedVariables false
set_option linter.unusedSimpArgs false
namespace Go.Proofs.Ytnhnfhdbbebclaa
open Go.RowKit V
theorem zeros_byt' (n : Nat) : Byt (List.replicate n 0) := fun x h => by rw [List.eq_of_mem_replicate h]; omega
def NewE (w : World) (lo hi B n : Nat) (pre : List Int) (st : List Int × Nat) (e : Ending) (w' : World) : Prop :=
  ∃ X F G, e = .returned (.tuple #[.iface 105 (.pointer (some ⟨X, 0, none⟩)), .slice (some ⟨G, 0, none⟩) (n + 2) (n + 2)]) ∧ Ofb 107 w' X F w.heap.size B n st ∧ w.heap.size ≤ X ∧ Rb w' (some ⟨G, 0, none⟩) pre ∧ Chg NoB w w'
set_option maxRecDepth 100000 in
set_option maxHeartbeats 4000000 in
theorem newOcfbE_any {w : World} {lo hi B n : Nat} {perm sub mask rand : List Int} {RA : Option Addr} {rc : Nat} (rs : Bool) (hC : Cph w lo hi B perm sub mask) (hr : RightB perm sub n) (hm : mask.length = n) (bs : Byt sub) (bm : Byt mask)
    (hhi : hi ≤ w.heap.size) (rr : Rb w RA rand) (br : Byt rand) (hrl : n = rand.length) (h2 : 2 ≤ n) :
    Calls Try.prog 44 #[cphV B, .slice RA n rc, .bool rs] w (NewE w lo hi B n (ofPre (encL perm sub mask) n rand) (ofSt (encL perm sub mask) n (ofPre (encL perm sub mask) n rand) rs)) := by
  have HR := As.mk hr
  have CB := As.mk hC
  have HM := As.mk hm
  have HBY := As.mk (And.intro bs (And.intro bm br))
  have HE : As (∀ x, (encL perm sub mask x).length = n) := ⟨fun x => by rw [encL_length]; exact hm⟩
  have HEB : As (∀ x, Byt (encL perm sub mask x)) := ⟨fun x => encL_byt x bs bm⟩
  have n2 : n ≤ 32 := hr.2.1
  have RR := As.mk rr
  have HRL := As.mk hrl
  have HH := As.mk hhi
  have na := na_bs
  have me := me_bs
  have na2 := na_en
  have me2 := me_en
  have hbne : (((n : Nat) : Int) != (n : Int)) = false := by simp
  clear hr hC hm bs bm br rr hrl hhi
  go_enter Try.func44, Try.ntmps44
  go_wp2_with fail
  refine (blockSize_any CB.out HM.out).mono ?_
  rintro e1 w1 ⟨rfl, rfl⟩
  go_wp2_with (first
    | ((with_reducible refine gate (N := 20) rfl ?_); refine wpList_make_k rfl _ 22 rfl 5 .u8 1 Try.underlying22 info8 (by decide) n _ rfl rfl (by omega) ?_
       intro w2 F HF2 ho2 hc2 hz2
       have O2 := As.mk ho2
       have C2 := As.mk hc2
       clear ho2 hc2 hz2)
    | ((with_reducible refine gate (N := 25) rfl ?_); refine wpList_make_k rfl _ 22 rfl 5 .u8 1 Try.underlying22 info8 (by decide) (n + 2) _ rfl (by omega) (by omega) ?_
       intro w3 G HG3 ho3 hc3 hz3
       have O3 := As.mk ho3
       have C3 := As.mk hc3
       clear ho3 hc3 hz3))
  obtain ⟨X, hX⟩ : ∃ X, X = w2.heap.size := ⟨_, rfl⟩
  have HX := As.mk hX
  have hF := own_blocks O2.out
  have hal : Chg NoB w2 (w2.alloc (.cells [cphV B, .slice (some ⟨F, 0, none⟩) n n, .int .i64 0].toArray 107)) := (Chg.refl NoB w2).alloc _
  have hz : (w2.alloc (.cells [cphV B, .slice (some ⟨F, 0, none⟩) n n, .int .i64 0].toArray 107)).heap.size = w2.heap.size + 1 := Array.size_push _
  have hG := own_blocks O3.out
  have BX3 : As (Blk w3 X 107 [cphV B, .slice (some ⟨F, 0, none⟩) n n, .int .i64 0]) := ⟨by rw [hX]; exact (Blk.new w2 107 [cphV B, .slice (some ⟨F, 0, none⟩) n n, .int .i64 0]).chg C3.out (fun e => e)⟩
  have OF3 : As (Own w3 w1.heap.size 5 .u8 (.slice (some ⟨F, 0, none⟩) n n) (List.replicate n 0)) := ⟨own_keep (own_keep O2.out hal) C3.out⟩
  have CA3 : As (Chg NoB w1 w3) := ⟨(C2.out.trans hal (fun _ _ e => e)).trans C3.out (fun _ _ e => e)⟩
  have OG3 : As (Own w3 w1.heap.size 5 .u8 (.slice (some ⟨G, 0, none⟩) (n + 2) (n + 2)) (pAt (encL perm sub mask) n rand 0)) := ⟨by rw [pAt_zero]; exact own_lower O3.out (Nat.le_trans C2.out.size hal.size)⟩
  have HNE : As (X ≠ F ∧ X ≠ G ∧ F ≠ G ∧ w1.heap.size ≤ F ∧ w1.heap.size ≤ X ∧ w1.heap.size ≤ G) := ⟨by
    have h1 := C2.out.size
    have h2 := hG.1
    have h3 : w2.heap.size + 1 ≤ G := by rw [← hz]; exact h2
    omega⟩
  rw [← hX]
  clear hX hF hal hz hG O2 O3 C2 C3
  have x0 := BX3.out.cell 0
  have x1 := BX3.out.cell 1
  simp only [List.getElem?_cons_zero, List.getElem?_cons_succ] at x0 x1
  go_wp2_with fail
  go_cut [11] (fun s11 wx => s11 = undef ∧ As (Blk wx X 107 [cphV B, .slice (some ⟨F, 0, none⟩) n n, .int .i64 0]) ∧ As (Own wx w1.heap.size 5 .u8 (.slice (some ⟨F, 0, none⟩) n n) (ofZ (encL perm sub mask) n)) ∧ As (Own wx w1.heap.size 5 .u8 (.slice (some ⟨G, 0, none⟩) (n + 2) (n + 2)) (pAt (encL perm sub mask) n rand 0)) ∧ As (Chg NoB w1 wx))
  case first =>
    go_region_law (first
      | (go_simp
         with_reducible refine (encrypt_any (off := 0) (xs := List.replicate n 0) (CB.out.keep (Chg.trans (S' := NoB) CA3.out (by repeat (first | exact Chg.refl _ _ | (with_reducible apply Chg.drew) | (with_reducible apply Chg.alloc))) (fun _ _ e => e))) HR.out HM.out HBY.out.1 HBY.out.2.1 (own_keep OF3.out (by repeat (first | exact Chg.refl _ _ | (with_reducible apply Chg.drew) | (with_reducible apply Chg.alloc)))) (by omega) (by omega) ((own_reads OF3.out).keep (by repeat (first | exact Chg.refl _ _ | (with_reducible apply Chg.drew) | (with_reducible apply Chg.alloc)))) (zeros_byt' n) (by simp) (by omega)).mono ?_
         rintro e4 w4 ⟨rfl, ho4, hc4⟩
         rw [splice_all (by rw [HE.out, List.length_replicate])] at ho4
         have O4 : As (Own w4 w1.heap.size 5 .u8 (.slice (some ⟨F, 0, none⟩) n n) (ofZ (encL perm sub mask) n)) := ⟨ho4⟩
         have C4 : As (Chg (fun b => b = F) w3 w4) := ⟨Chg.trans (S := fun b => b = F) (by repeat (first | exact Chg.refl _ _ | (with_reducible apply Chg.drew) | (with_reducible apply Chg.alloc))) hc4 (fun _ _ e => e)⟩
         clear ho4 hc4))
    all_goals
      go_wp2_with fail
      go_meet
      refine ⟨rfl, ⟨BX3.out.chg C4.out (fun e => HNE.out.1 e)⟩, O4, ⟨own_chg OG3.out C4.out (fun b hb e => by injection hb with hb; subst hb; exact HNE.out.2.2.1 e.symm)⟩, ⟨CA3.out.trans C4.out (fun b hb e => by have := HNE.out; omega)⟩⟩
  case rest =>
    obtain ⟨rfl, BX, OF, OG, CA⟩ := hcut
    clear x0 x1 BX3 OF3 OG3 CA3
    go_wp2_with fail
    go_loopw [11] (fun i wr => ∃ k : Nat, k ≤ n ∧ i = .int .i64 k ∧ As (Own wr w1.heap.size 5 .u8 (.slice (some ⟨G, 0, none⟩) (n + 2) (n + 2)) (pAt (encL perm sub mask) n rand k)) ∧ As (Chg (fun b => b = G) wc wr)) (fun i _ => n - (intOf i).toNat)
    case atStart => exact ⟨0, Nat.zero_le _, rfl, OG, ⟨Chg.refl _ _⟩⟩
    case round =>
      obtain ⟨k, hk, rfl, HG, HC⟩ := hrel
      by_cases hlt : k < n
      · have RRr := As.mk ((RR.out.keep CA.out).chg HC.out (fun ad e hb h => by
          obtain ⟨ad', e', hb', _⟩ := RR.out.2 (by have := HRL.out; omega)
          rw [e] at e'; injection e' with e'; subst e'
          have := HNE.out
          have h3 : ad.block = G := h
          omega))
        obtain ⟨ad, rfl, hc⟩ := RRr.out.at_ (k : Int) (by omega) (by have := HRL.out; omega)
        rw [Int.toNat_natCast, rd_nat] at hc
        have BXr := BX.out.chg HC.out (fun e => HNE.out.2.1 e)
        have OFr := own_chg OF.out HC.out (fun b hb e => by injection hb with hb; subst hb; exact HNE.out.2.2.1 e)
        have x1 := BXr.cell 1
        simp only [List.getElem?_cons_zero, List.getElem?_cons_succ] at x1
        obtain ⟨f0, _⟩ := own_at OFr k (by rw [show (ofZ (encL perm sub mask) n).length = n from HE.out _]; exact hlt)
        rw [rd_nat] at f0
        obtain ⟨_, fz⟩ := own_at HG.out k (by rw [pAt_length]; omega)
        obtain ⟨fg, _⟩ := own_at HG.out k (by rw [pAt_length]; omega)
        have hset := own_set HG.out k (Go.bits .xor .u8 (rand.getD k 0) ((ofZ (encL perm sub mask) n).getD k 0))
        rw [pAt_step] at hset
        have HSET := As.mk hset
        obtain ⟨b0, b1⟩ := HBY.out.2.2.getD k
        obtain ⟨b2, b3⟩ := (show Byt (ofZ (encL perm sub mask) n) from HEB.out _).getD k
        generalize rand.getD k 0 = q at *
        generalize (ofZ (encL perm sub mask) n).getD k 0 = q2 at *
        have i1 : (k : Int) < (n : Int) := by omega
        have i2 : (k : Int) < (n : Int) + 2 := by omega
        have i3 : k < n + 2 := by omega
        clear BXr OFr hset
        go_wp2
        go_still_tail 15, (by kernel_rfl)
        change wpList _ _ _ _ _ (World.drew wr)
        go_wp2
        go_roundw
        case rel => exact ⟨k + 1, by omega, by go_num, HSET, ⟨(HC.out.setCell (p := ⟨G, k, none⟩) _ (fun _ => rfl)).drew⟩⟩
        case measure => simp [intOf]; omega
      · obtain rfl : k = n := by omega
        have BXr := As.mk (BX.out.chg HC.out (fun e => HNE.out.2.1 e))
        have OFr := As.mk (own_chg OF.out HC.out (fun b hb e => by injection hb with hb; subst hb; exact HNE.out.2.2.1 e))
        have CAr : As (Chg NoB w1 wr) := ⟨CA.out.trans HC.out (fun b hb e => by have := HNE.out; omega)⟩
        clear BX OF OG CA
        have x1 := BXr.out.cell 1
        simp only [List.getElem?_cons_zero, List.getElem?_cons_succ] at x1
        have k1 := cut_to (P := Try.prog) 22 5 Try.underlying22 size8 (some ⟨G, 0, none⟩) (k + 2) (k + 2) (k : Int) .i64 k rfl (by omega)
        go_wp2_with fail
        go_cut [11] (fun s11 wx => s11 = .int .i64 k ∧ As (Own wx w1.heap.size 5 .u8 (.slice (some ⟨F, 0, none⟩) k k) (encL perm sub mask (pre1 (encL perm sub mask) k rand))) ∧ As (Chg (fun b => b = F) wr wx))
        case first =>
          go_region_law (first
            | (go_simp
               with_reducible refine (encrypt_any (off := 0) (xs := pre1 (encL perm sub mask) k rand) (CB.out.keep (Chg.trans (S' := NoB) CAr.out (by repeat (first | exact Chg.refl _ _ | (with_reducible apply Chg.drew) | (with_reducible apply Chg.alloc))) (fun _ _ e => e))) HR.out HM.out HBY.out.1 HBY.out.2.1 (own_keep OFr.out (by repeat (first | exact Chg.refl _ _ | (with_reducible apply Chg.drew) | (with_reducible apply Chg.alloc)))) (by omega) (by omega) (Rk.keep (w := wr) (by rw [← pAt_take]; exact (own_reads HG.out).take_ k) (by repeat (first | exact Chg.refl _ _ | (with_reducible apply Chg.drew) | (with_reducible apply Chg.alloc)))) (pre1_byt HEB.out HBY.out.2.2) (pre1_length _).symm (Nat.le_refl _)).mono ?_
               rintro e4 w4 ⟨rfl, ho4, hc4⟩
               rw [splice_all (by rw [HE.out]; exact (HE.out _).symm)] at ho4
               have O4 := As.mk ho4
               have C4 : As (Chg (fun b => b = F) wr w4) := ⟨Chg.trans (S := fun b => b = F) (by repeat (first | exact Chg.refl _ _ | (with_reducible apply Chg.drew) | (with_reducible apply Chg.alloc))) hc4 (fun _ _ e => e)⟩
               clear ho4 hc4))
          all_goals
            go_wp2_with fail
            go_meet
            exact ⟨rfl, O4, C4⟩
        case rest =>
          obtain ⟨rfl, OF2, CF2⟩ := hcut
          have BXc := As.mk (BXr.out.chg CF2.out (fun e => HNE.out.1 e))
          have OGc := As.mk (own_chg HG.out CF2.out (fun b hb e => by injection hb with hb; subst hb; exact HNE.out.2.2.1 e.symm))
          have CAc : As (Chg NoB w1 wc) := ⟨CAr.out.trans CF2.out (fun b hb e => by have := HNE.out; omega)⟩
          have RRc := As.mk (RR.out.keep CAc.out)
          clear x1 BXr OFr CAr HG HC CF2
          obtain ⟨m2, hm2⟩ : ∃ m2, m2 = k - 2 := ⟨_, rfl⟩
          obtain ⟨m1, hm1⟩ : ∃ m1, m1 = k - 1 := ⟨_, rfl⟩
          have s2 : (k : Int) - 2 = (m2 : Int) := by omega
          have s1 : (k : Int) - 1 = (m1 : Int) := by omega
          obtain ⟨ad, rfl, hr2⟩ := RRc.out.at_ (m2 : Int) (by omega) (by have := HRL.out; omega)
          obtain ⟨ad', e', hr1⟩ := RRc.out.at_ (m1 : Int) (by omega) (by have := HRL.out; omega)
          injection e' with e'; subst e'
          rw [Int.toNat_natCast, rd_nat] at hr2 hr1
          have HADL : As (ad.block < w1.heap.size) := ⟨by
            obtain ⟨ad'', e'', hb'', _⟩ := RR.out.2 (by have := HRL.out; omega)
            injection e'' with e''; subst e''; exact hb''⟩
          have FL : (encL perm sub mask (pre1 (encL perm sub mask) k rand)).length = k := HE.out _
          obtain ⟨f0, _⟩ := own_at OF2.out 0 (by rw [FL]; omega)
          obtain ⟨f1, _⟩ := own_at OF2.out 1 (by rw [FL]; omega)
          rw [rd_nat] at f0 f1
          obtain ⟨_, gz⟩ := own_at OGc.out k (by rw [pAt_length]; omega)
          obtain ⟨gg, _⟩ := own_at OGc.out k (by rw [pAt_length]; omega)
          have HMM := As.mk (And.intro hm2 hm1)
          obtain ⟨b0, b1⟩ := HBY.out.2.2.getD m2
          obtain ⟨b2, b3⟩ := HBY.out.2.2.getD m1
          obtain ⟨b4, b5⟩ := (HEB.out (pre1 (encL perm sub mask) k rand)).getD 0
          obtain ⟨b6, b7⟩ := (HEB.out (pre1 (encL perm sub mask) k rand)).getD 1
          have HPRE : As (((pAt (encL perm sub mask) k rand k).set k (Go.bits .xor .u8 ((encL perm sub mask (pre1 (encL perm sub mask) k rand)).getD 0 0) (rand.getD m2 0))).set (k + 1) (Go.bits .xor .u8 ((encL perm sub mask (pre1 (encL perm sub mask) k rand)).getD 1 0) (rand.getD m1 0)) = ofPre (encL perm sub mask) k rand) := ⟨by rw [pAt_end, hm2, hm1]; rfl⟩
          have BE1 := As.mk (HEB.out (pre1 (encL perm sub mask) k rand))
          have HFE : As (encL perm sub mask ((ofPre (encL perm sub mask) k rand).take k) = encL perm sub mask (pre1 (encL perm sub mask) k rand)) := ⟨by
            unfold ofPre
            rw [List.take_append_of_le_length (by rw [pre1_length]; exact Nat.le_refl _), List.take_of_length_le (by rw [pre1_length]; exact Nat.le_refl _)]⟩
          generalize hF1 : encL perm sub mask (pre1 (encL perm sub mask) k rand) = fr at *
          have HFL := As.mk FL
          generalize fr.getD 0 0 = q0 at *
          generalize fr.getD 1 0 = q1 at *
          generalize rand.getD m2 0 = r2 at *
          generalize rand.getD m1 0 = r1 at *
          have wm2 : IntKind.i64.wrap (m2 : Int) = (m2 : Int) := by simp [IntKind.wrap, IntKind.bits, IntKind.signed]; omega
          have wm1 : IntKind.i64.wrap (m1 : Int) = (m1 : Int) := by simp [IntKind.wrap, IntKind.bits, IntKind.signed]; omega
          have i2 : (m2 : Int) < (k : Int) := by omega
          have i1 : (m1 : Int) < (k : Int) := by omega
          have i3 : (k : Int) < (k : Int) + 2 := by omega
          have i4 : (0 : Int) < (k : Int) := by omega
          have i5 : (1 : Int) < (k : Int) := by omega
          have i6 : m2 < k := by omega
          have i7 : m1 < k := by omega
          have i8 : 0 < k := by omega
          have i9 : 1 < k := by omega
          clear hm2 hm1 hF1 FL
          have x1 := BXc.out.cell 1
          simp only [List.getElem?_cons_zero, List.getElem?_cons_succ] at x1
          have hcG : Chg (fun b => b = G) wc (wc.setCell ⟨G, k, none⟩ (.int .u8 (Go.bits .xor .u8 q0 r2))).drew := ((Chg.refl (fun b => b = G) wc).setCell (p := ⟨G, k, none⟩) _ (fun _ => rfl)).drew
          have OG5 := As.mk (own_keep (own_set OGc.out k (Go.bits .xor .u8 q0 r2)) ((Chg.refl NoB _).drew))
          have BX5 := As.mk (BXc.out.chg hcG (fun e => HNE.out.2.1 e))
          have OF5 := As.mk (own_chg OF2.out hcG (fun b hb e => by injection hb with hb; subst hb; exact HNE.out.2.2.1 e))
          have CA5 : As (Chg NoB w1 (wc.setCell ⟨G, k, none⟩ (.int .u8 (Go.bits .xor .u8 q0 r2))).drew) := ⟨CAc.out.trans hcG (fun b hb e => by have := HNE.out; omega)⟩
          have hr15 : As ((wc.setCell ⟨G, k, none⟩ (.int .u8 (Go.bits .xor .u8 q0 r2))).drew.cell? (ad.add m1) = some (.int .u8 r1)) := ⟨(hcG.cell (p := ad.add m1) (by rw [add_block]; exact Nat.lt_of_lt_of_le HADL.out CAc.out.size) (fun e => by rw [add_block] at e; have := HNE.out; have := HADL.out; omega)).trans hr1⟩
          have f15 : As ((wc.setCell ⟨G, k, none⟩ (.int .u8 (Go.bits .xor .u8 q0 r2))).drew.cell? ⟨F, 1, none⟩ = some (.int .u8 q1)) := ⟨(hcG.cell (p := ⟨F, 1, none⟩) (World.block_lt_of_cell? _ _ f1) (fun e => HNE.out.2.2.1 e)).trans f1⟩
          clear hcG
          go_wp2_with fail
          go_still_tail 15, (by kernel_rfl)
          change wpList _ _ _ _ _ (World.drew wc)
          go_wp2_with fail
          clear x1 f0 f1 gz gg hr2 hr1
          generalize (wc.setCell ⟨G, k, none⟩ (.int .u8 (Go.bits .xor .u8 q0 r2))).drew = w5 at *
          have x1 := BX5.out.cell 1
          simp only [List.getElem?_cons_zero, List.getElem?_cons_succ] at x1
          have f1 := f15.out
          have hr1 := hr15.out
          obtain ⟨gg, gz⟩ := own_at OG5.out (k + 1) (by rw [List.length_set, pAt_length]; omega)
          have j1 : (k : Int) + 1 = ((k + 1 : Nat) : Int) := by omega
          obtain ⟨k1, hk1⟩ : ∃ k1, k1 = k + 1 := ⟨_, rfl⟩
          have j2 : (k1 : Int) < (k : Int) + 2 := by omega
          have j3 : k1 < k + 2 := by omega
          have HK1 := As.mk hk1
          have wk1 : IntKind.i64.wrap (k1 : Int) = (k1 : Int) := by simp [IntKind.wrap, IntKind.bits, IntKind.signed]; omega
          have hset := own_set OG5.out (k + 1) (Go.bits .xor .u8 q1 r1)
          rw [HPRE.out] at hset
          rw [← hk1] at gg gz j1 hset
          have hcG : Chg (fun b => b = G) w5 (w5.setCell ⟨G, k1, none⟩ (.int .u8 (Go.bits .xor .u8 q1 r1))).drew := ((Chg.refl (fun b => b = G) w5).setCell (p := ⟨G, k1, none⟩) _ (fun _ => rfl)).drew
          have OG6 := As.mk (own_keep hset ((Chg.refl NoB _).drew))
          have BX6 := As.mk (BX5.out.chg hcG (fun e => HNE.out.2.1 e))
          have OF6 := As.mk (own_chg OF5.out hcG (fun b hb e => by injection hb with hb; subst hb; exact HNE.out.2.2.1 e))
          have CA6 : As (Chg NoB w1 (w5.setCell ⟨G, k1, none⟩ (.int .u8 (Go.bits .xor .u8 q1 r1))).drew) := ⟨CA5.out.trans hcG (fun b hb e => by have := HNE.out; omega)⟩
          clear hcG hset hk1 OG5 BX5 OF5 CA5 hr15 f15
          cases rs
          all_goals
            go_still_tail 16, (by kernel_rfl)
            change wpList _ _ _ _ _ (World.drew w5)
            go_wp2_with fail
            clear x1 f1 gz gg hr1
            generalize (w5.setCell ⟨G, k1, none⟩ (.int .u8 (Go.bits .xor .u8 q1 r1))).drew = w6 at *
            have x1 := BX6.out.cell 1
            simp only [List.getElem?_cons_zero, List.getElem?_cons_succ] at x1
          · have PL : (ofPre (encL perm sub mask) k rand).length = k + 2 := ofPre_length _
            have PB := ofPre_byt (n := k) HEB.out HBY.out.2.2
            obtain ⟨g0, _⟩ := own_at OG6.out k (by rw [PL]; omega)
            obtain ⟨g1, _⟩ := own_at OG6.out k1 (by rw [PL, HK1.out]; omega)
            rw [rd_nat] at g0 g1
            obtain ⟨f0, fz⟩ := own_at OF6.out 0 (by rw [HFL.out]; omega)
            have HP0 : As ((ofPre (encL perm sub mask) k rand).getD k 0 = (ofPre (encL perm sub mask) k rand).getD k 0) := ⟨rfl⟩
            have HSTF : As (ofSt (encL perm sub mask) k (ofPre (encL perm sub mask) k rand) false = ((fr.set 0 ((ofPre (encL perm sub mask) k rand).getD k 0)).set 1 ((ofPre (encL perm sub mask) k rand).getD k1 0), 2)) := ⟨by
              unfold ofSt
              rw [if_neg (by simp), HFE.out, HK1.out]⟩
            have HOKS := As.mk (okS_St (E := encL perm sub mask) HE.out HEB.out h2 PB false)
            generalize (ofPre (encL perm sub mask) k rand).getD k 0 = p0 at *
            generalize (ofPre (encL perm sub mask) k rand).getD k1 0 = p1 at *
            have hcF : Chg (fun b => b = F) w6 (w6.setCell ⟨F, 0, none⟩ (.int .u8 p0)).drew := ((Chg.refl (fun b => b = F) w6).setCell (p := ⟨F, 0, none⟩) _ (fun _ => rfl)).drew
            have OF7 := As.mk (own_keep (own_set OF6.out 0 p0) ((Chg.refl NoB _).drew))
            have BX7 := As.mk (BX6.out.chg hcF (fun e => HNE.out.1 e))
            have OG7 := As.mk (own_chg OG6.out hcF (fun b hb e => by injection hb with hb; subst hb; exact HNE.out.2.2.1 e.symm))
            have CA7 : As (Chg NoB w1 (w6.setCell ⟨F, 0, none⟩ (.int .u8 p0)).drew) := ⟨CA6.out.trans hcF (fun b hb e => by have := HNE.out; omega)⟩
            have g17 : As ((w6.setCell ⟨F, 0, none⟩ (.int .u8 p0)).drew.cell? ⟨G, k1, none⟩ = some (.int .u8 p1)) := ⟨(hcF.cell (p := ⟨G, k1, none⟩) (World.block_lt_of_cell? _ _ g1) (fun e => HNE.out.2.2.1 e.symm)).trans g1⟩
            clear hcF PL PB HP0 OF6 BX6 OG6 CA6
            go_still_tail 9, (by kernel_rfl)
            change wpList _ _ _ _ _ (World.drew w6)
            go_wp2_with fail
            clear x1 f0 fz g0 g1
            generalize (w6.setCell ⟨F, 0, none⟩ (.int .u8 p0)).drew = w7 at *
            have x1 := BX7.out.cell 1
            simp only [List.getElem?_cons_zero, List.getElem?_cons_succ] at x1
            have g1 := g17.out
            obtain ⟨f0, fz⟩ := own_at OF7.out 1 (by rw [List.length_set, HFL.out]; omega)
            have hcF : Chg (fun b => b = F) w7 (w7.setCell ⟨F, 1, none⟩ (.int .u8 p1)).drew := ((Chg.refl (fun b => b = F) w7).setCell (p := ⟨F, 1, none⟩) _ (fun _ => rfl)).drew
            have OF8 := As.mk (own_keep (own_set OF7.out 1 p1) ((Chg.refl NoB _).drew))
            have BX8 := As.mk (BX7.out.chg hcF (fun e => HNE.out.1 e))
            have OG8 := As.mk (own_chg OG7.out hcF (fun b hb e => by injection hb with hb; subst hb; exact HNE.out.2.2.1 e.symm))
            have CA8 : As (Chg NoB w1 (w7.setCell ⟨F, 1, none⟩ (.int .u8 p1)).drew) := ⟨CA7.out.trans hcF (fun b hb e => by have := HNE.out; omega)⟩
            have y2 := BX8.out.cell 2
            have fx2 := BX8.out.frozen 2
            simp only [List.getElem?_cons_zero, List.getElem?_cons_succ] at y2
            have y3 : (w7.setCell ⟨F, 1, none⟩ (.int .u8 p1)).cell? ⟨X, 2, none⟩ = some (.int .i64 0) := y2
            have fx3 : (w7.setCell ⟨F, 1, none⟩ (.int .u8 p1)).frozen? ⟨X, 2, none⟩ = false := fx2
            have hcX : Chg (fun b => b = X) (w7.setCell ⟨F, 1, none⟩ (.int .u8 p1)).drew ((w7.setCell ⟨F, 1, none⟩ (.int .u8 p1)).drew.setCell ⟨X, 2, none⟩ (.int .i64 2)) := (Chg.refl (fun b => b = X) (w7.setCell ⟨F, 1, none⟩ (.int .u8 p1)).drew).setCell (p := ⟨X, 2, none⟩) _ (fun _ => rfl)
            have BX9 : As (Blk ((w7.setCell ⟨F, 1, none⟩ (.int .u8 p1)).drew.setCell ⟨X, 2, none⟩ (.int .i64 2)) X 107 [cphV B, .slice (some ⟨F, 0, none⟩) k k, .int .i64 2]) := ⟨BX8.out.set_ 2 (.int .i64 2)⟩
            have OF9 := As.mk (own_chg OF8.out hcX (fun b hb e => by injection hb with hb; subst hb; exact HNE.out.1 e.symm))
            have OG9 := As.mk (own_chg OG8.out hcX (fun b hb e => by injection hb with hb; subst hb; exact HNE.out.2.1 e.symm))
            have CA9 : As (Chg NoB w1 ((w7.setCell ⟨F, 1, none⟩ (.int .u8 p1)).drew.setCell ⟨X, 2, none⟩ (.int .i64 2))) := ⟨CA8.out.trans hcX (fun b hb e => by have := HNE.out; omega)⟩
            clear hcF hcX OF7 BX7 OG7 CA7 OF8 BX8 OG8 CA8
            go_still_tail 10, (by kernel_rfl)
            change wpList _ _ _ _ _ (World.drew w7)
            go_wp2_with fail
            go_ret2
            refine ⟨X, F, G, rfl, ?_, HNE.out.2.2.2.2.1, own_reads OG9.out, CA9.out⟩
            have hok := HOKS.out
            rw [HSTF.out] at hok ⊢
            exact ⟨BX9.out, OF9.out, HNE.out.1, h2, hok.2.1⟩
          · have PL : (ofPre (encL perm sub mask) k rand).length = k + 2 := ofPre_length _
            have PB := As.mk (ofPre_byt (n := k) HEB.out HBY.out.2.2)
            obtain ⟨A5, k5, HA5, HR5⟩ := cut_from (P := Try.prog) 22 5 Try.underlying22 size8 (some ⟨G, 0, none⟩) (k + 2) (k + 2) 2 .i64 k k (by omega) (by omega) (by omega) (by omega)
            have R5 := As.mk (HR5 w6 .u8 _ PL (own_reads OG6.out))
            have HDL : As (k = ((ofPre (encL perm sub mask) k rand).drop 2).length) := ⟨by rw [List.length_drop, PL]; omega⟩
            have HSTT : As (ofSt (encL perm sub mask) k (ofPre (encL perm sub mask) k rand) true = (encL perm sub mask ((ofPre (encL perm sub mask) k rand).drop 2), 0)) := ⟨rfl⟩
            have HOKS := As.mk (okS_St (E := encL perm sub mask) HE.out HEB.out h2 PB.out true)
            clear HA5 HR5 PL
            go_region_law (first
              | (go_simp
                 with_reducible refine (encrypt_any (off := 0) (xs := (ofPre (encL perm sub mask) k rand).drop 2) (CB.out.keep (Chg.trans (S' := NoB) CA6.out (by repeat (first | exact Chg.refl _ _ | (with_reducible apply Chg.drew) | (with_reducible apply Chg.alloc))) (fun _ _ e => e))) HR.out HM.out HBY.out.1 HBY.out.2.1 (own_keep OF6.out (by repeat (first | exact Chg.refl _ _ | (with_reducible apply Chg.drew) | (with_reducible apply Chg.alloc)))) (by omega) (by omega) (Rk.keep (w := w6) R5.out (by repeat (first | exact Chg.refl _ _ | (with_reducible apply Chg.drew) | (with_reducible apply Chg.alloc)))) (PB.out.drop 2) HDL.out (Nat.le_refl _)).mono ?_
                 rintro e4 w8 ⟨rfl, ho4, hc4⟩
                 rw [splice_all (by rw [HE.out, HFL.out])] at ho4
                 have O8 := As.mk ho4
                 have C8 : As (Chg (fun b => b = F) w6 w8) := ⟨Chg.trans (S := fun b => b = F) (by repeat (first | exact Chg.refl _ _ | (with_reducible apply Chg.drew) | (with_reducible apply Chg.alloc))) hc4 (fun _ _ e => e)⟩
                 clear ho4 hc4))
            all_goals
              go_wp2_with fail
              go_ret2
              have OG8 := own_chg OG6.out C8.out (fun b hb e => by injection hb with hb; subst hb; exact HNE.out.2.2.1 e.symm)
              have hok := HOKS.out
              refine ⟨X, F, G, rfl, ?_, HNE.out.2.2.2.2.1, own_reads OG8, CA6.out.trans C8.out (fun b hb e => by have := HNE.out; omega)⟩
              rw [HSTT.out] at hok ⊢
              exact ⟨BX6.out.chg C8.out (fun e => HNE.out.1 e), O8.out, HNE.out.1, Nat.zero_le _, hok.2.1⟩
end Go.Proofs.Ytnhnfhdbbebclaa
