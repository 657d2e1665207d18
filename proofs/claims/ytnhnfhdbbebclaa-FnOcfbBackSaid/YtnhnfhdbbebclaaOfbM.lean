/- The contract of packet.NewOCFBDecrypter. -/
import Derived.Test.YtnhnfhdbbebclaaOfbN
set_option linter.unusedVariables false
set_option linter.unusedSimpArgs false
namespace Go.Proofs.Ytnhnfhdbbebclaa
open Go.RowKit V
section
variable (E : List Int → List Int) (n : Nat)
/-- The copy of the prefix after k rounds. -/
def qAt (pre : List Int) (k : Nat) : List Int := tab (n + 2) fun j => if j < k then Go.bits .xor .u8 (pre.getD j 0) ((ofZ E n).getD j 0) else pre.getD j 0
end
section
variable {E : List Int → List Int} {n : Nat}
theorem qAt_zero {pre : List Int} (h : pre.length = n + 2) : qAt E n pre 0 = pre := by
  conv => rhs; rw [eq_tab pre, h]
  exact tab_congr fun j _ => if_neg (by omega)
theorem qAt_length (pre : List Int) (k : Nat) : (qAt E n pre k).length = n + 2 := tab_length _ _
theorem qAt_rd {pre : List Int} {k j : Nat} (hj : j < n + 2) (hk : k ≤ j) : rd (qAt E n pre k) (j : Int) = pre.getD j 0 := by
  unfold qAt
  rw [rd_tab hj, if_neg (by omega)]
theorem qAt_step (pre : List Int) (k : Nat) : (qAt E n pre k).set k (Go.bits .xor .u8 (pre.getD k 0) ((ofZ E n).getD k 0)) = qAt E n pre (k + 1) := by
  unfold qAt
  rw [tab_set]
  refine tab_congr fun j hj => ?_
  by_cases e : j = k
  · subst e; rw [if_pos rfl, if_pos (by omega)]
  · rw [if_neg e]
    by_cases h3 : j < k
    · rw [if_pos h3, if_pos (by omega)]
    · rw [if_neg h3, if_neg (by omega)]
theorem qAt_end (pre : List Int) (a b : Int) : ((qAt E n pre n).set n a).set (n + 1) b = pre1 E n (pre.take n) ++ [a, b] := by
  have h1 : (qAt E n pre n).take n = pre1 E n (pre.take n) := by
    unfold qAt pre1
    rw [tab_take _ _ _ (by omega)]
    refine tab_congr fun j hj => ?_
    rw [if_pos hj]
    congr 1
    simp [List.getD_eq_getElem?_getD, List.getElem?_take, hj]
  apply List.ext_getElem?
  intro j
  have hl := qAt_length (E := E) (n := n) pre n
  by_cases h : j < n
  · rw [List.getElem?_set, if_neg (by omega), List.getElem?_set, if_neg (by omega), List.getElem?_append_left (by rw [pre1_length]; exact h), ← h1, List.getElem?_take, if_pos h]
  · rw [List.getElem?_append_right (by rw [pre1_length]; omega), pre1_length]
    by_cases e : j = n
    · subst e
      rw [List.getElem?_set, if_neg (by omega), List.getElem?_set, if_pos rfl, if_pos (by omega)]
      simp
    · by_cases e2 : j = n + 1
      · subst e2
        rw [List.getElem?_set, if_pos rfl, if_pos (by rw [List.length_set]; omega), show n + 1 - n = 1 from by omega]
        rfl
      · rw [List.getElem?_eq_none (by simp [hl]; omega), List.getElem?_eq_none (by simp; omega)]
theorem unPre_length (pre : List Int) : (unPre E n pre).length = n + 2 := by simp [unPre, pre1_length]
end
def NewD (w : World) (B n P pc base : Nat) (un : List Int) (st : List Int × Nat) (e : Ending) (w' : World) : Prop :=
  ∃ X F, e = .returned (.iface 109 (.pointer (some ⟨X, 0, none⟩))) ∧ Ofb 110 w' X F w.heap.size B n st ∧ w.heap.size ≤ X ∧ Own w' base 5 .u8 (.slice (some ⟨P, 0, none⟩) (n + 2) pc) un ∧ Chg (fun b => b = P) w w'
set_option maxRecDepth 100000 in
set_option maxHeartbeats 4000000 in
theorem newOcfbD_any {w : World} {lo hi B n P pc base : Nat} {perm sub mask pre : List Int} (rs : Bool) (hC : Cph w lo hi B perm sub mask) (hr : RightB perm sub n) (hm : mask.length = n) (bs : Byt sub) (bm : Byt mask)
    (hhi : hi ≤ w.heap.size) (hP : P < lo ∨ hi ≤ P) (OP0 : Own w base 5 .u8 (.slice (some ⟨P, 0, none⟩) (n + 2) pc) pre) (bp : Byt pre) (h2 : 2 ≤ n) :
    Calls Try.prog 46 #[cphV B, .slice (some ⟨P, 0, none⟩) (n + 2) pc, .bool rs] w (NewD w B n P pc base (unPre (encL perm sub mask) n pre) (ofSt (encL perm sub mask) n pre rs)) := by
  have HR := As.mk hr
  have CB := As.mk hC
  have HM := As.mk hm
  have HBY := As.mk (And.intro bs (And.intro bm bp))
  have HE : As (∀ x, (encL perm sub mask x).length = n) := ⟨fun x => by rw [encL_length]; exact hm⟩
  have HEB : As (∀ x, Byt (encL perm sub mask x)) := ⟨fun x => encL_byt x bs bm⟩
  have n2 : n ≤ 32 := hr.2.1
  have OPW := As.mk OP0
  have HPL : As (pre.length = n + 2) := ⟨(own_len OP0).symm⟩
  have HPP := As.mk (And.intro hP (own_blocks OP0).2)
  have HPC : As (n + 2 ≤ pc) := ⟨by obtain ⟨A', c', e', hcc, _, _⟩ := own_form OP0; have := own_len OP0; injection e' with e1 e2 e3; omega⟩
  have HH := As.mk hhi
  have na := na_bs
  have me := me_bs
  have na2 := na_en
  have me2 := me_en
  have hbne : (((n : Nat) : Int) + 2 != (n : Int) + 2) = false := by simp
  clear hr hC hm bs bm bp OP0 hhi hP
  go_enter Try.func46, Try.ntmps46
  go_wp2_with fail
  refine (blockSize_any CB.out HM.out).mono ?_
  rintro e1 w1 ⟨rfl, rfl⟩
  go_wp2_with (first
    | ((with_reducible refine gate (N := 20) rfl ?_); refine wpList_make_k rfl _ 22 rfl 5 .u8 1 Try.underlying22 info8 (by decide) n _ rfl rfl (by omega) ?_
       intro w2 F HF2 ho2 hc2 hz2
       have O2 := As.mk ho2
       have C2 := As.mk hc2
       clear ho2 hc2 hz2)
    | ((with_reducible refine gate (N := 25) rfl ?_); refine wpList_make_k rfl _ 22 rfl 5 .u8 1 Try.underlying22 info8 (by decide) (n + 2) _ rfl (by omega) (by omega) ?_
       intro w3 G HG3 ho3 hc3 hz3
       have C3 := As.mk hc3
       have hl3 : (List.replicate (n + 2) (0 : Int)).length = n + 2 := List.length_replicate ..
       have hal : Chg NoB w2 (w2.alloc (.cells [cphV B, .slice (some ⟨F, 0, none⟩) n n, .int .i64 0].toArray 110)) := (Chg.refl NoB w2).alloc _
       have O3 := As.mk (own_lower (base' := w1.heap.size) ho3 (Nat.le_trans C2.out.size hal.size))
       have CP3 := As.mk ((C2.out.trans hal (fun _ _ e => e)).trans hc3 (fun _ _ e => e))
       clear ho3 hc3 hz3 hal)
    | ((with_reducible refine gate (N := 28) rfl ?_); refine wpList_copy_rk (et := 5) rfl _ _ 22 22 rfl w1.heap.size 5 .u8 Try.underlying22 size8 G (n + 2) (List.replicate (n + 2) 0) ?ho (some ⟨G, 0, none⟩) 0 (n + 2) (n + 2) ?h0 ?hd (fun _ => rfl) (some ⟨P, 0, none⟩) pre pc ?hs ((own_reads OPW.out).keep CP3.out) ?_
       (case ho => rw [List.length_replicate]; exact O3.out)
       (case h0 => rw [List.length_replicate]; omega)
       (case hd => rfl)
       (case hs => rw [HPL.out]; rfl)
       intro w4 ho4 hg4
       have hsp : splice (List.replicate (n + 2) (0 : Int)) 0 (pre.take (n + 2)) = pre := by
         rw [List.take_of_length_le (by rw [HPL.out]; exact Nat.le_refl _)]
         exact splice_all (by rw [HPL.out, List.length_replicate])
       rw [hsp, List.length_replicate] at ho4
       have O4 := As.mk ho4
       have C4 : As (Chg (fun b => b = G) w3 w4) := ⟨(Chg.refl _ w3).grown hg4 (fun b hb e => by injection e with e; exact e.symm)⟩
       clear ho4 hg4 hsp hl3))
  obtain ⟨X, hX⟩ : ∃ X, X = w2.heap.size := ⟨_, rfl⟩
  have HX := As.mk hX
  have hF := own_blocks O2.out
  have hal : Chg NoB w2 (w2.alloc (.cells [cphV B, .slice (some ⟨F, 0, none⟩) n n, .int .i64 0].toArray 110)) := (Chg.refl NoB w2).alloc _
  have hz : (w2.alloc (.cells [cphV B, .slice (some ⟨F, 0, none⟩) n n, .int .i64 0].toArray 110)).heap.size = w2.heap.size + 1 := Array.size_push _
  have HNE : As (X ≠ F ∧ X ≠ G ∧ F ≠ G ∧ w1.heap.size ≤ F ∧ w1.heap.size ≤ X ∧ w1.heap.size ≤ G) := ⟨by
    have h1 := C2.out.size
    have h3 : w2.heap.size + 1 ≤ G := by rw [← hz, HG3.out]; exact Nat.le_refl _
    omega⟩
  have CG4 : As (Chg (fun b => b = G) w3 w4) := C4
  have BX3 : As (Blk w4 X 110 [cphV B, .slice (some ⟨F, 0, none⟩) n n, .int .i64 0]) := ⟨by
    have h := ((Blk.new w2 110 [cphV B, .slice (some ⟨F, 0, none⟩) n n, .int .i64 0]).chg C3.out (fun e => e)).chg C4.out (fun e => HNE.out.2.1 (by rw [hX]; exact e))
    rw [hX]; exact h⟩
  have OF3 : As (Own w4 w1.heap.size 5 .u8 (.slice (some ⟨F, 0, none⟩) n n) (List.replicate n 0)) := ⟨own_chg (own_keep (own_keep O2.out hal) C3.out) C4.out (fun b hb e => by injection hb with hb; subst hb; exact HNE.out.2.2.1 e)⟩
  have CA3 : As (Chg NoB w1 w4) := ⟨CP3.out.trans C4.out (fun b hb e => by have := HNE.out; omega)⟩
  have OG3 : As (Own w4 w1.heap.size 5 .u8 (.slice (some ⟨G, 0, none⟩) (n + 2) (n + 2)) (qAt (encL perm sub mask) n pre 0)) := ⟨by rw [qAt_zero HPL.out]; exact O4.out⟩
  have OP3 := As.mk (own_keep OPW.out CA3.out)
  rw [← hX]
  clear hX hF hal hz O2 O3 C2 C3 CG4 C4 O4
  have x0 := BX3.out.cell 0
  have x1 := BX3.out.cell 1
  simp only [List.getElem?_cons_zero, List.getElem?_cons_succ] at x0 x1
  go_simp
  go_cut [10] (fun s11 wx => s11 = undef ∧ As (Blk wx X 110 [cphV B, .slice (some ⟨F, 0, none⟩) n n, .int .i64 0]) ∧ As (Own wx w1.heap.size 5 .u8 (.slice (some ⟨F, 0, none⟩) n n) (ofZ (encL perm sub mask) n)) ∧ As (Own wx w1.heap.size 5 .u8 (.slice (some ⟨G, 0, none⟩) (n + 2) (n + 2)) (qAt (encL perm sub mask) n pre 0)) ∧ As (Chg NoB w1 wx))
  case first =>
    go_region_law (first
      | (go_simp
         with_reducible refine (encrypt_any (off := 0) (xs := List.replicate n 0) (CB.out.keep (Chg.trans (S' := NoB) CA3.out (by repeat (first | exact Chg.refl _ _ | (with_reducible apply Chg.drew) | (with_reducible apply Chg.alloc))) (fun _ _ e => e))) HR.out HM.out HBY.out.1 HBY.out.2.1 (own_keep OF3.out (by repeat (first | exact Chg.refl _ _ | (with_reducible apply Chg.drew) | (with_reducible apply Chg.alloc)))) (by omega) (by omega) ((own_reads OF3.out).keep (by repeat (first | exact Chg.refl _ _ | (with_reducible apply Chg.drew) | (with_reducible apply Chg.alloc)))) (zeros_byt' n) (by simp) (by omega)).mono ?_
         rintro e4 w5 ⟨rfl, ho4, hc4⟩
         rw [splice_all (by rw [HE.out, List.length_replicate])] at ho4
         have O5 : As (Own w5 w1.heap.size 5 .u8 (.slice (some ⟨F, 0, none⟩) n n) (ofZ (encL perm sub mask) n)) := ⟨ho4⟩
         have C5 : As (Chg (fun b => b = F) w4 w5) := ⟨Chg.trans (S := fun b => b = F) (by repeat (first | exact Chg.refl _ _ | (with_reducible apply Chg.drew) | (with_reducible apply Chg.alloc))) hc4 (fun _ _ e => e)⟩
         clear ho4 hc4))
    all_goals
      go_wp2_with fail
      go_meet
      refine ⟨rfl, ⟨BX3.out.chg C5.out (fun e => HNE.out.1 e)⟩, O5, ⟨own_chg OG3.out C5.out (fun b hb e => by injection hb with hb; subst hb; exact HNE.out.2.2.1 e.symm)⟩, ⟨CA3.out.trans C5.out (fun b hb e => by have := HNE.out; omega)⟩⟩
  case rest =>
    obtain ⟨rfl, BX, OF, OG, CA⟩ := hcut
    clear x0 x1 BX3 OF3 OG3 CA3 OP3
    go_wp2_with fail
    go_loopw [10] (fun i wr => ∃ k : Nat, k ≤ n ∧ i = .int .i64 k ∧ As (Own wr w1.heap.size 5 .u8 (.slice (some ⟨G, 0, none⟩) (n + 2) (n + 2)) (qAt (encL perm sub mask) n pre k)) ∧ As (Chg (fun b => b = G) wc wr)) (fun i _ => n - (intOf i).toNat)
    case atStart => exact ⟨0, Nat.zero_le _, rfl, OG, ⟨Chg.refl _ _⟩⟩
    case round =>
      obtain ⟨k, hk, rfl, HG, HC⟩ := hrel
      by_cases hlt : k < n
      · have BXr := BX.out.chg HC.out (fun e => HNE.out.2.1 e)
        have OFr := own_chg OF.out HC.out (fun b hb e => by injection hb with hb; subst hb; exact HNE.out.2.2.1 e)
        have x1 := BXr.cell 1
        simp only [List.getElem?_cons_zero, List.getElem?_cons_succ] at x1
        obtain ⟨f0, _⟩ := own_at OFr k (by rw [show (ofZ (encL perm sub mask) n).length = n from HE.out _]; exact hlt)
        rw [rd_nat] at f0
        obtain ⟨fg, fz⟩ := own_at HG.out k (by rw [qAt_length]; omega)
        rw [qAt_rd (by omega) (Nat.le_refl _)] at fg
        have hset := own_set HG.out k (Go.bits .xor .u8 (pre.getD k 0) ((ofZ (encL perm sub mask) n).getD k 0))
        rw [qAt_step] at hset
        have HSET := As.mk hset
        obtain ⟨b0, b1⟩ := HBY.out.2.2.getD k
        obtain ⟨b2, b3⟩ := (show Byt (ofZ (encL perm sub mask) n) from HEB.out _).getD k
        generalize pre.getD k 0 = q at *
        generalize (ofZ (encL perm sub mask) n).getD k 0 = q2 at *
        have i1 : (k : Int) < (n : Int) := by omega
        have i2 : (k : Int) < (n : Int) + 2 := by omega
        have i3 : k < n + 2 := by omega
        clear BXr OFr hset
        go_wp2
        go_still_tail 13, (by kernel_rfl)
        change wpList _ _ _ _ _ (World.drew wr)
        go_wp2
        go_roundw
        case rel => exact ⟨k + 1, by omega, by go_num, HSET, ⟨(HC.out.setCell (p := ⟨G, k, none⟩) _ (fun _ => rfl)).drew⟩⟩
        case measure => simp [intOf]; omega
      · obtain rfl : k = n := by omega
        have BXr := As.mk (BX.out.chg HC.out (fun e => HNE.out.2.1 e))
        have OFr := As.mk (own_chg OF.out HC.out (fun b hb e => by injection hb with hb; subst hb; exact HNE.out.2.2.1 e))
        have CAr : As (Chg NoB w1 wr) := ⟨CA.out.trans HC.out (fun b hb e => by have := HNE.out; omega)⟩
        have OPr := As.mk (own_keep OPW.out CAr.out)
        clear BX OF OG CA
        have x1 := BXr.out.cell 1
        simp only [List.getElem?_cons_zero, List.getElem?_cons_succ] at x1
        have k1 := cut_to (P := Try.prog) 22 5 Try.underlying22 size8 (some ⟨P, 0, none⟩) (k + 2) pc (k : Int) .i64 k rfl (by have := HPC.out; omega)
        have HTL : As (k = (pre.take k).length) := ⟨by rw [List.length_take, HPL.out]; omega⟩
        go_wp2_with fail
        go_cut [10] (fun s11 wx => s11 = .int .i64 k ∧ As (Own wx w1.heap.size 5 .u8 (.slice (some ⟨F, 0, none⟩) k k) (encL perm sub mask (pre.take k))) ∧ As (Chg (fun b => b = F) wr wx))
        case first =>
          go_region_law (first
            | (go_simp
               with_reducible refine (encrypt_any (off := 0) (xs := pre.take k) (CB.out.keep (Chg.trans (S' := NoB) CAr.out (by repeat (first | exact Chg.refl _ _ | (with_reducible apply Chg.drew) | (with_reducible apply Chg.alloc))) (fun _ _ e => e))) HR.out HM.out HBY.out.1 HBY.out.2.1 (own_keep OFr.out (by repeat (first | exact Chg.refl _ _ | (with_reducible apply Chg.drew) | (with_reducible apply Chg.alloc)))) (by omega) (by omega) (Rk.keep (w := wr) ((own_reads OPr.out).take_ k) (by repeat (first | exact Chg.refl _ _ | (with_reducible apply Chg.drew) | (with_reducible apply Chg.alloc)))) (HBY.out.2.2.take k) HTL.out (Nat.le_refl _)).mono ?_
               rintro e4 w4 ⟨rfl, ho4, hc4⟩
               rw [splice_all (by rw [HE.out]; exact (HE.out _).symm)] at ho4
               have O4 := As.mk ho4
               have C4 : As (Chg (fun b => b = F) wr w4) := ⟨Chg.trans (S := fun b => b = F) (by repeat (first | exact Chg.refl _ _ | (with_reducible apply Chg.drew) | (with_reducible apply Chg.alloc))) hc4 (fun _ _ e => e)⟩
               clear ho4 hc4))
          all_goals
            go_wp2_with fail
            go_meet
            exact ⟨rfl, O4, C4⟩
        case rest =>
          obtain ⟨rfl, OF2, CF2⟩ := hcut
          have BXc := As.mk (BXr.out.chg CF2.out (fun e => HNE.out.1 e))
          have OGc := As.mk (own_chg HG.out CF2.out (fun b hb e => by injection hb with hb; subst hb; exact HNE.out.2.2.1 e.symm))
          have CAc : As (Chg NoB w1 wc) := ⟨CAr.out.trans CF2.out (fun b hb e => by have := HNE.out; omega)⟩
          clear x1 BXr OFr CAr OPr HG HC CF2
          have FL : (encL perm sub mask (pre.take k)).length = k := HE.out _
          obtain ⟨f0, _⟩ := own_at OF2.out 0 (by rw [FL]; omega)
          obtain ⟨f1, _⟩ := own_at OF2.out 1 (by rw [FL]; omega)
          rw [rd_nat] at f0 f1
          obtain ⟨gg, gz⟩ := own_at OGc.out k (by rw [qAt_length]; omega)
          rw [qAt_rd (by omega) (Nat.le_refl _)] at gg
          obtain ⟨b0, b1⟩ := HBY.out.2.2.getD k
          obtain ⟨b2, b3⟩ := HBY.out.2.2.getD (k + 1)
          obtain ⟨b4, b5⟩ := (HEB.out (pre.take k)).getD 0
          obtain ⟨b6, b7⟩ := (HEB.out (pre.take k)).getD 1
          have HPRE : As (((qAt (encL perm sub mask) k pre k).set k (Go.bits .xor .u8 (pre.getD k 0) ((encL perm sub mask (pre.take k)).getD 0 0))).set (k + 1) (Go.bits .xor .u8 (pre.getD (k + 1) 0) ((encL perm sub mask (pre.take k)).getD 1 0)) = unPre (encL perm sub mask) k pre) := ⟨by rw [qAt_end]; rfl⟩
          obtain ⟨k1, hk1⟩ : ∃ k1, k1 = k + 1 := ⟨_, rfl⟩
          have HSTF : As (ofSt (encL perm sub mask) k pre false = (((encL perm sub mask (pre.take k)).set 0 (pre.getD k 0)).set 1 (pre.getD k1 0), 2)) := ⟨by
            unfold ofSt
            rw [if_neg (by simp), hk1]⟩
          have HP01 : As (pre.getD k 0 = rd pre (k : Int) ∧ pre.getD k1 0 = rd pre (k1 : Int)) := ⟨(rd_nat _ _).symm, (rd_nat _ _).symm⟩
          rw [← hk1] at HPRE b2 b3
          generalize hF1 : encL perm sub mask (pre.take k) = fr at *
          have HFL := As.mk FL
          generalize fr.getD 0 0 = q0 at *
          generalize fr.getD 1 0 = q1 at *
          generalize pre.getD k 0 = p0 at *
          generalize hp1 : pre.getD k1 0 = p1 at *
          have i3 : (k : Int) < (k : Int) + 2 := by omega
          have i4 : (0 : Int) < (k : Int) := by omega
          have i5 : (1 : Int) < (k : Int) := by omega
          have i8 : 0 < k := by omega
          have i9 : 1 < k := by omega
          have j1 : (k : Int) + 1 = (k1 : Int) := by omega
          have j2 : (k1 : Int) < (k : Int) + 2 := by omega
          have j3 : k1 < k + 2 := by omega
          have HK1 := As.mk hk1
          have wk1 : IntKind.i64.wrap (k1 : Int) = (k1 : Int) := by simp [IntKind.wrap, IntKind.bits, IntKind.signed]; omega
          clear hk1 hF1 FL
          have x1 := BXc.out.cell 1
          simp only [List.getElem?_cons_zero, List.getElem?_cons_succ] at x1
          have hcG : Chg (fun b => b = G) wc (wc.setCell ⟨G, k, none⟩ (.int .u8 (Go.bits .xor .u8 p0 q0))).drew := ((Chg.refl (fun b => b = G) wc).setCell (p := ⟨G, k, none⟩) _ (fun _ => rfl)).drew
          have OG5 := As.mk (own_keep (own_set OGc.out k (Go.bits .xor .u8 p0 q0)) ((Chg.refl NoB _).drew))
          have BX5 := As.mk (BXc.out.chg hcG (fun e => HNE.out.2.1 e))
          have OF5 := As.mk (own_chg OF2.out hcG (fun b hb e => by injection hb with hb; subst hb; exact HNE.out.2.2.1 e))
          have CA5 : As (Chg NoB w1 (wc.setCell ⟨G, k, none⟩ (.int .u8 (Go.bits .xor .u8 p0 q0))).drew) := ⟨CAc.out.trans hcG (fun b hb e => by have := HNE.out; omega)⟩
          have f15 : As ((wc.setCell ⟨G, k, none⟩ (.int .u8 (Go.bits .xor .u8 p0 q0))).drew.cell? ⟨F, 1, none⟩ = some (.int .u8 q1)) := ⟨(hcG.cell (p := ⟨F, 1, none⟩) (World.block_lt_of_cell? _ _ f1) (fun e => HNE.out.2.2.1 e)).trans f1⟩
          have g15 : As ((wc.setCell ⟨G, k, none⟩ (.int .u8 (Go.bits .xor .u8 p0 q0))).drew.cell? ⟨G, k1, none⟩ = some (.int .u8 p1)) := ⟨by
            obtain ⟨h, _⟩ := own_at OG5.out k1 (by rw [List.length_set, qAt_length]; exact j3)
            rw [rd_nat, List.getD_eq_getElem?_getD, List.getElem?_set, if_neg (by have := HK1.out; omega), ← List.getD_eq_getElem?_getD, ← rd_nat, qAt_rd (by omega) (by have := HK1.out; omega), hp1] at h
            exact h⟩
          clear hcG hp1
          go_wp2_with fail
          go_still_tail 12, (by kernel_rfl)
          change wpList _ _ _ _ _ (World.drew wc)
          go_wp2_with fail
          clear x1 f0 f1 gz gg
          generalize (wc.setCell ⟨G, k, none⟩ (.int .u8 (Go.bits .xor .u8 p0 q0))).drew = w5 at *
          have x1 := BX5.out.cell 1
          simp only [List.getElem?_cons_zero, List.getElem?_cons_succ] at x1
          have f1 := f15.out
          have gg := g15.out
          obtain ⟨_, gz⟩ := own_at OG5.out k1 (by rw [List.length_set, qAt_length]; exact j3)
          have hset := own_set OG5.out k1 (Go.bits .xor .u8 p1 q1)
          rw [HPRE.out] at hset
          have hcG : Chg (fun b => b = G) w5 (w5.setCell ⟨G, k1, none⟩ (.int .u8 (Go.bits .xor .u8 p1 q1))).drew := ((Chg.refl (fun b => b = G) w5).setCell (p := ⟨G, k1, none⟩) _ (fun _ => rfl)).drew
          have OG6 := As.mk (own_keep hset ((Chg.refl NoB _).drew))
          have BX6 := As.mk (BX5.out.chg hcG (fun e => HNE.out.2.1 e))
          have OF6 := As.mk (own_chg OF5.out hcG (fun b hb e => by injection hb with hb; subst hb; exact HNE.out.2.2.1 e))
          have CA6 : As (Chg NoB w1 (w5.setCell ⟨G, k1, none⟩ (.int .u8 (Go.bits .xor .u8 p1 q1))).drew) := ⟨CA5.out.trans hcG (fun b hb e => by have := HNE.out; omega)⟩
          clear hcG hset OG5 BX5 OF5 CA5 f15 g15
          cases rs
          all_goals
            go_still_tail 13, (by kernel_rfl)
            change wpList _ _ _ _ _ (World.drew w5)
            go_wp2_with fail
            clear x1 f1 gz gg
            generalize (w5.setCell ⟨G, k1, none⟩ (.int .u8 (Go.bits .xor .u8 p1 q1))).drew = w6 at *
            have x1 := BX6.out.cell 1
            simp only [List.getElem?_cons_zero, List.getElem?_cons_succ] at x1
          · have OP6 := As.mk (own_keep OPW.out CA6.out)
            have HPNE : As (P ≠ F ∧ P ≠ G ∧ P ≠ X) := ⟨by have := HPP.out.2; have := HNE.out; omega⟩
            have HUL : As ((unPre (encL perm sub mask) k pre).length = k + 2) := ⟨unPre_length _⟩
            obtain ⟨g0, _⟩ := own_at OP6.out k (by rw [HPL.out]; omega)
            rw [← HP01.out.1] at g0
            obtain ⟨f0, fz⟩ := own_at OF6.out 0 (by rw [HFL.out]; omega)
            have HOKS := As.mk (okS_St (E := encL perm sub mask) HE.out HEB.out h2 HBY.out.2.2 false)
            have hcF : Chg (fun b => b = F) w6 (w6.setCell ⟨F, 0, none⟩ (.int .u8 p0)).drew := ((Chg.refl (fun b => b = F) w6).setCell (p := ⟨F, 0, none⟩) _ (fun _ => rfl)).drew
            have OF7 := As.mk (own_keep (own_set OF6.out 0 p0) ((Chg.refl NoB _).drew))
            have BX7 := As.mk (BX6.out.chg hcF (fun e => HNE.out.1 e))
            have OG7 := As.mk (own_chg OG6.out hcF (fun b hb e => by injection hb with hb; subst hb; exact HNE.out.2.2.1 e.symm))
            have OP7 := As.mk (own_chg OP6.out hcF (fun b hb e => by injection hb with hb; subst hb; exact HPNE.out.1 e))
            have CA7 : As (Chg NoB w1 (w6.setCell ⟨F, 0, none⟩ (.int .u8 p0)).drew) := ⟨CA6.out.trans hcF (fun b hb e => by have := HNE.out; omega)⟩
            clear hcF OF6 BX6 OG6 CA6
            go_still_tail 9, (by kernel_rfl)
            change wpList _ _ _ _ _ (World.drew w6)
            go_wp2_with fail
            clear x1 f0 fz g0 OP6
            generalize (w6.setCell ⟨F, 0, none⟩ (.int .u8 p0)).drew = w7 at *
            have x1 := BX7.out.cell 1
            simp only [List.getElem?_cons_zero, List.getElem?_cons_succ] at x1
            obtain ⟨g1, _⟩ := own_at OP7.out k1 (by rw [HPL.out]; omega)
            rw [← HP01.out.2] at g1
            obtain ⟨f0, fz⟩ := own_at OF7.out 1 (by rw [List.length_set, HFL.out]; omega)
            have hcF : Chg (fun b => b = F) w7 (w7.setCell ⟨F, 1, none⟩ (.int .u8 p1)).drew := ((Chg.refl (fun b => b = F) w7).setCell (p := ⟨F, 1, none⟩) _ (fun _ => rfl)).drew
            have OF8 := As.mk (own_keep (own_set OF7.out 1 p1) ((Chg.refl NoB _).drew))
            have BX8 := As.mk (BX7.out.chg hcF (fun e => HNE.out.1 e))
            have OG8 := As.mk (own_chg OG7.out hcF (fun b hb e => by injection hb with hb; subst hb; exact HNE.out.2.2.1 e.symm))
            have OP8 := As.mk (own_chg OP7.out hcF (fun b hb e => by injection hb with hb; subst hb; exact HPNE.out.1 e))
            have CA8 : As (Chg NoB w1 (w7.setCell ⟨F, 1, none⟩ (.int .u8 p1)).drew) := ⟨CA7.out.trans hcF (fun b hb e => by have := HNE.out; omega)⟩
            have y2 := BX8.out.cell 2
            have fx2 := BX8.out.frozen 2
            simp only [List.getElem?_cons_zero, List.getElem?_cons_succ] at y2
            have y3 : (w7.setCell ⟨F, 1, none⟩ (.int .u8 p1)).cell? ⟨X, 2, none⟩ = some (.int .i64 0) := y2
            have fx3 : (w7.setCell ⟨F, 1, none⟩ (.int .u8 p1)).frozen? ⟨X, 2, none⟩ = false := fx2
            have hcX : Chg (fun b => b = X) (w7.setCell ⟨F, 1, none⟩ (.int .u8 p1)).drew ((w7.setCell ⟨F, 1, none⟩ (.int .u8 p1)).drew.setCell ⟨X, 2, none⟩ (.int .i64 2)) := (Chg.refl (fun b => b = X) (w7.setCell ⟨F, 1, none⟩ (.int .u8 p1)).drew).setCell (p := ⟨X, 2, none⟩) _ (fun _ => rfl)
            have BX9 : As (Blk ((w7.setCell ⟨F, 1, none⟩ (.int .u8 p1)).drew.setCell ⟨X, 2, none⟩ (.int .i64 2)) X 110 [cphV B, .slice (some ⟨F, 0, none⟩) k k, .int .i64 2]) := ⟨BX8.out.set_ 2 (.int .i64 2)⟩
            have OF9 := As.mk (own_chg OF8.out hcX (fun b hb e => by injection hb with hb; subst hb; exact HNE.out.1 e.symm))
            have OG9 := As.mk (own_chg OG8.out hcX (fun b hb e => by injection hb with hb; subst hb; exact HNE.out.2.1 e.symm))
            have OP9 := As.mk (own_chg OP8.out hcX (fun b hb e => by injection hb with hb; subst hb; exact HPNE.out.2.2 e))
            have CA9 : As (Chg NoB w1 ((w7.setCell ⟨F, 1, none⟩ (.int .u8 p1)).drew.setCell ⟨X, 2, none⟩ (.int .i64 2))) := ⟨CA8.out.trans hcX (fun b hb e => by have := HNE.out; omega)⟩
            clear hcF hcX OF7 BX7 OG7 CA7 OP7 OF8 BX8 OG8 CA8 OP8
            go_still_tail 10, (by kernel_rfl)
            change wpList _ _ _ _ _ (World.drew w7)
            go_wp2_with ((with_reducible refine gate (N := 133) rfl ?_); refine wpList_copy_rk (et := 5) rfl _ _ 22 22 rfl base 5 .u8 Try.underlying22 size8 P pc pre ?ho (some ⟨P, 0, none⟩) 0 (k + 2) pc ?h0 ?hd (fun _ => rfl) (some ⟨G, 0, none⟩) (unPre (encL perm sub mask) k pre) (k + 2) ?hs (own_reads OG9.out) ?_
                         (case ho => rw [HPL.out]; exact OP9.out)
                         (case h0 => rw [HPL.out]; omega)
                         (case hd => rfl)
                         (case hs => rw [HUL.out]; rfl)
                         intro w10 ho10 hg10
                         have hsp : splice pre 0 ((unPre (encL perm sub mask) k pre).take (k + 2)) = unPre (encL perm sub mask) k pre := by
                           rw [List.take_of_length_le (by rw [HUL.out]; exact Nat.le_refl _)]
                           exact splice_all (by rw [HPL.out, HUL.out])
                         rw [hsp, HPL.out] at ho10
                         have O10 := As.mk ho10
                         have G10 := As.mk hg10
                         clear ho10 hg10 hsp)
            go_ret
            have hcP : Chg (fun b => b = P) ((w7.setCell ⟨F, 1, none⟩ (.int .u8 p1)).drew.setCell ⟨X, 2, none⟩ (.int .i64 2)) w10 := (Chg.refl _ _).grown G10.out (fun b hb e => by injection e with e; exact e.symm)
            have hok := HOKS.out
            refine ⟨X, F, rfl, ?_, HNE.out.2.2.2.2.1, O10.out, (CA9.out.mono (fun _ _ e => e.elim)).trans hcP (fun _ _ e => e)⟩
            rw [HSTF.out] at hok ⊢
            exact ⟨BX9.out.chg hcP (fun e => HPNE.out.2.2 e.symm), own_chg OF9.out hcP (fun b hb e => by injection hb with hb; subst hb; exact HPNE.out.1 e.symm), HNE.out.1, h2, hok.2.1⟩
          · have OP6 := As.mk (own_keep OPW.out CA6.out)
            have HPNE : As (P ≠ F ∧ P ≠ G ∧ P ≠ X) := ⟨by have := HPP.out.2; have := HNE.out; omega⟩
            have HUL : As ((unPre (encL perm sub mask) k pre).length = k + 2) := ⟨unPre_length _⟩
            obtain ⟨A5, k5, HA5, HR5⟩ := cut_from (P := Try.prog) 22 5 Try.underlying22 size8 (some ⟨P, 0, none⟩) (k + 2) pc 2 .i64 k (pc - 2) (by omega) (by omega) (by have := HPC.out; omega) HPC.out
            have R5 := As.mk (HR5 w6 .u8 _ HPL.out (own_reads OP6.out))
            have HDL : As (k = (pre.drop 2).length) := ⟨by rw [List.length_drop, HPL.out]; omega⟩
            have HS110 : As (ofSt (encL perm sub mask) k pre true = (encL perm sub mask (pre.drop 2), 0)) := ⟨rfl⟩
            have HOKS := As.mk (okS_St (E := encL perm sub mask) HE.out HEB.out h2 HBY.out.2.2 true)
            clear HA5 HR5
            go_region_law (first
              | (go_simp
                 with_reducible refine (encrypt_any (off := 0) (xs := pre.drop 2) (CB.out.keep (Chg.trans (S' := NoB) CA6.out (by repeat (first | exact Chg.refl _ _ | (with_reducible apply Chg.drew) | (with_reducible apply Chg.alloc))) (fun _ _ e => e))) HR.out HM.out HBY.out.1 HBY.out.2.1 (own_keep OF6.out (by repeat (first | exact Chg.refl _ _ | (with_reducible apply Chg.drew) | (with_reducible apply Chg.alloc)))) (by omega) (by omega) (Rk.keep (w := w6) R5.out (by repeat (first | exact Chg.refl _ _ | (with_reducible apply Chg.drew) | (with_reducible apply Chg.alloc)))) (HBY.out.2.2.drop 2) HDL.out (Nat.le_refl _)).mono ?_
                 rintro e4 w8 ⟨rfl, ho4, hc4⟩
                 rw [splice_all (by rw [HE.out, HFL.out])] at ho4
                 have O8 := As.mk ho4
                 have C8 : As (Chg (fun b => b = F) w6 w8) := ⟨Chg.trans (S := fun b => b = F) (by repeat (first | exact Chg.refl _ _ | (with_reducible apply Chg.drew) | (with_reducible apply Chg.alloc))) hc4 (fun _ _ e => e)⟩
                 clear ho4 hc4))
            all_goals
              have OG9 := As.mk (own_chg OG6.out C8.out (fun b hb e => by injection hb with hb; subst hb; exact HNE.out.2.2.1 e.symm))
              have OP9 := As.mk (own_chg OP6.out C8.out (fun b hb e => by injection hb with hb; subst hb; exact HPNE.out.1 e))
              go_wp2_with ((with_reducible refine gate (N := 133) rfl ?_); refine wpList_copy_rk (et := 5) rfl _ _ 22 22 rfl base 5 .u8 Try.underlying22 size8 P pc pre ?ho (some ⟨P, 0, none⟩) 0 (k + 2) pc ?h0 ?hd (fun _ => rfl) (some ⟨G, 0, none⟩) (unPre (encL perm sub mask) k pre) (k + 2) ?hs (own_reads OG9.out) ?_
                           (case ho => rw [HPL.out]; exact OP9.out)
                           (case h0 => rw [HPL.out]; omega)
                           (case hd => rfl)
                           (case hs => rw [HUL.out]; rfl)
                           intro w10 ho10 hg10
                           have hsp : splice pre 0 ((unPre (encL perm sub mask) k pre).take (k + 2)) = unPre (encL perm sub mask) k pre := by
                             rw [List.take_of_length_le (by rw [HUL.out]; exact Nat.le_refl _)]
                             exact splice_all (by rw [HPL.out, HUL.out])
                           rw [hsp, HPL.out] at ho10
                           have O10 := As.mk ho10
                           have G10 := As.mk hg10
                           clear ho10 hg10 hsp)
              go_ret
              have hcP : Chg (fun b => b = P) w8 w10 := (Chg.refl _ _).grown G10.out (fun b hb e => by injection e with e; exact e.symm)
              have hok := HOKS.out
              refine ⟨X, F, rfl, ?_, HNE.out.2.2.2.2.1, O10.out, ((CA6.out.trans C8.out (fun b hb e => by have := HNE.out; omega)).mono (S := NoB) (fun _ _ e => e.elim)).trans hcP (fun _ _ e => e)⟩
              rw [HS110.out] at hok ⊢
              exact ⟨(BX6.out.chg C8.out (fun e => HNE.out.1 e)).chg hcP (fun e => HPNE.out.2.2 e.symm), own_chg O8.out hcP (fun b hb e => by injection hb with hb; subst hb; exact HPNE.out.1 e.symm), HNE.out.1, Nat.zero_le _, hok.2.1⟩
end Go.Proofs.Ytnhnfhdbbebclaa
