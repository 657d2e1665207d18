/- The contract of (*ocfbDecrypter).XORKeyStream. -/
import Derived.Test.YtnhnfhdbbebclaaOfb
import Derived.Test.YtnhnfhdbbebclaaSplw
set_option linter.unusedVariables false
set_option linter.unusedSimpArgs false
namespace Go.Proofs.Ytnhnfhdbbebclaa
open Go.RowKit V
set_option maxRecDepth 100000 in
set_option maxHeartbeats 4000000 in
theorem xorD_any {w : World} {lo hi B n X F base base2 m D : Nat} {perm sub mask src zs : List Int} {st : List Int × Nat} {SA : Option Addr} {sc : Nat} (hC : Cph w lo hi B perm sub mask) (hr : RightB perm sub n) (hm : mask.length = n) (bs : Byt sub) (bm : Byt mask)
    (hO : Ofb 110 w X F base B n st) (HD : Own w base2 5 .u8 (.slice (some ⟨D, 0, none⟩) m m) zs) (rx : Rb w SA src) (bx : Byt src) (hsl : m = src.length) (hm63 : m ≤ 9223372036854775806)
    (hF : F < lo ∨ hi ≤ F) (hX : X < lo ∨ hi ≤ X) (hD : D < lo ∨ hi ≤ D) (hne : D ≠ X ∧ D ≠ F) (hsrc : ∀ ad, SA = some ad → ad.block ≠ D ∧ ad.block ≠ X ∧ ad.block ≠ F) :
    Calls Try.prog 107 #[.pointer (some ⟨X, 0, none⟩), .slice (some ⟨D, 0, none⟩) m m, .slice SA m sc] w fun e w' => e = .returned (.tuple #[]) ∧
      Own w' base2 5 .u8 (.slice (some ⟨D, 0, none⟩) m m) (outD (encL perm sub mask) n st src) ∧ Ofb 110 w' X F base B n (runD (encL perm sub mask) n st src) ∧ Chg (fun b => b = D ∨ b = X ∨ b = F) w w' := by
  have HR := As.mk hr
  have CB := As.mk hC
  have HM := As.mk hm
  have HBY := As.mk (And.intro bs (And.intro bm bx))
  have HE : As (∀ x, (encL perm sub mask x).length = n) := ⟨fun x => by rw [encL_length]; exact hm⟩
  have HEB : As (∀ x, Byt (encL perm sub mask x)) := ⟨fun x => encL_byt x bs bm⟩
  have n1 : 1 ≤ n := hr.1
  have n2 : n ≤ 32 := hr.2.1
  have HO := As.mk hO
  have OD := As.mk HD
  have RX := As.mk rx
  have HN := As.mk hsl
  have HZL := As.mk (own_len HD)
  have HS := As.mk (And.intro hF (And.intro hX (And.intro hD (And.intro hne hsrc))))
  have na := na_en
  have me := me_en
  clear hr hC hm bs bm bx hO HD rx hsl hF hX hD hne hsrc
  go_enter Try.func107, Try.ntmps107
  go_wp2
  go_loopw [6] (fun i wr => ∃ k : Nat, k ≤ m ∧ i = .int .i64 k ∧ As (Own wr base2 5 .u8 (.slice (some ⟨D, 0, none⟩) m m) (outD (encL perm sub mask) n st (src.take k) ++ zs.drop k)) ∧ As (Ofb 110 wr X F base B n (runD (encL perm sub mask) n st (src.take k))) ∧ As (Chg (fun b => b = D ∨ b = X ∨ b = F) w wr)) (fun i _ => m - (intOf i).toNat)
  case atStart => exact ⟨0, Nat.zero_le _, rfl, ⟨by simpa [outD] using OD.out⟩, ⟨by simpa [runD] using HO.out⟩, ⟨Chg.refl _ _⟩⟩
  case round =>
    obtain ⟨k, hk, rfl, HROW, HOF, HC⟩ := hrel
    by_cases hlt : k < m
    · have HSTEP := As.mk (outD_step (E := encL perm sub mask) (n := n) (xs := src) (k := k) (by have := HN.out; omega) st)
      have HOUTL : As ((outD (encL perm sub mask) n st (src.take k)).length = k) := ⟨by rw [outD_length, List.length_take]; have := HN.out; omega⟩
      have hgb := HBY.out.2.2.getD k
      obtain ⟨p0, p1⟩ := hgb
      have RXr := As.mk (RX.out.chg HC.out (fun ad e hb h => by have := HS.out.2.2.2.2 ad e; rcases h with h | h | h <;> omega))
      obtain ⟨ad, rfl, hcp⟩ := RXr.out.at_ (k : Int) (by omega) (by have := HN.out; omega)
      rw [Int.toNat_natCast, rd_nat] at hcp
      have HADB : As (ad.block < wr.heap.size) := ⟨by have := World.block_lt_of_cell? wr _ hcp; rwa [add_block] at this⟩
      have HP : As (src.getD k 0 = src.getD k 0) := ⟨rfl⟩
      generalize hs1 : runD (encL perm sub mask) n st (src.take k) = s at *
      obtain ⟨p, hp⟩ : ∃ p, p = src.getD k 0 := ⟨_, rfl⟩
      rw [← hp] at HSTEP hcp p0 p1
      have HAD : As (ad.block ≠ D ∧ ad.block ≠ X ∧ ad.block ≠ F) := ⟨HS.out.2.2.2.2 ad rfl⟩
      clear HP hp hs1
      obtain ⟨hbx, hof, hxf, hs2, hs3⟩ := HOF.out
      have BX := As.mk hbx
      have OF := As.mk hof
      have HXF := As.mk hxf
      have HS3 := As.mk hs3
      have x0 := hbx.cell 0
      have x1 := hbx.cell 1
      have x2 := hbx.cell 2
      simp only [List.getElem?_cons_zero, List.getElem?_cons_succ] at x0 x1 x2
      clear hbx hof hxf hs3
      have hcase : As (OkS n s ∧ OkS n (ofS (encL perm sub mask) n s) ∧ (ofS (encL perm sub mask) n s).2 < n) := ⟨⟨HOF.out.ok, okS_S HE.out HEB.out n1 HOF.out.ok⟩⟩
      by_cases hfull : s.2 = n
      · have hS : ofS (encL perm sub mask) n s = (encL perm sub mask s.1, 0) := by unfold ofS; rw [if_pos hfull]
        have HSS := As.mk hS
        have hbq : ((s.2 : Int) == (n : Int)) = true := by simp [hfull]
        have hbq2 : (s.2 == n) = true := by simp [hfull]
        have HFULL := As.mk hfull
        rw [hfull] at x2
        clear hS hfull hs2
        go_wp2
        go_quiet (fail)
        obtain ⟨wq, hwq⟩ : ∃ wq, wq = World.drewN wr nq := ⟨_, rfl⟩
        have KQ : As (Chg NoB wr wq) := ⟨by rw [hwq]; exact (Chg.refl NoB wr).drewN nq⟩
        rw [← hwq]
        have BXq := As.mk (BX.out.chg KQ.out (fun e => e))
        have OFq := As.mk (own_keep OF.out KQ.out)
        have ODq := As.mk (own_keep HROW.out KQ.out)
        have CQ : As (Chg (fun b => b = D ∨ b = X ∨ b = F) w wq) := ⟨HC.out.trans KQ.out (fun _ _ e => e.elim)⟩
        have hcq : wq.cell? (ad.add k) = some (.int .u8 p) := (KQ.out.cell (p := ad.add k) (by rw [add_block]; exact HADB.out) (fun e => e)).trans hcp
        clear hwq hcp x0 x1 x2 nq
        have x0 := BXq.out.cell 0
        have x1 := BXq.out.cell 1
        have x2 := BXq.out.cell 2
        simp only [List.getElem?_cons_zero, List.getElem?_cons_succ] at x0 x1 x2
        rw [HFULL.out] at x2
        go_wp2_with fail
        go_still_tail 14, (by kernel_rfl)
        change wpList _ _ _ _ _ (World.drew wq)
        go_wp2_with fail
        refine (encrypt_any (w := World.drew wq) (off := 0) (xs := s.1) (CB.out.chg (S := fun b => b = D ∨ b = X ∨ b = F) CQ.out.drew (fun b h1 h2 e => by have hh := HS.out; rcases e with e | e | e <;> omega)) HR.out HM.out HBY.out.1 HBY.out.2.1 (own_keep OFq.out ((Chg.refl NoB wq).drew)) (by omega) (by omega) ((own_reads OFq.out).drew) hcase.out.1.2.1 hcase.out.1.1.symm (by omega)).mono ?_
        rintro e1 w1 ⟨rfl, ho1, hc1⟩
        rw [splice_all (by rw [HE.out]; exact hcase.out.1.1.symm)] at ho1
        have hcA : Chg (fun b => b = F) wq w1 := ((Chg.refl (fun b => b = F) wq).drew).trans hc1 (fun _ _ e => e)
        have BX1 := BXq.out.chg hcA (fun e => HXF.out e)
        have hset := BX1.set_ 2 (.int .i64 0)
        have y2 := BX1.cell 2
        have fz2 := BX1.frozen 2
        simp only [List.getElem?_cons_zero, List.getElem?_cons_succ] at y2
        have hcB : Chg (fun b => b = X) w1 (w1.setCell ⟨X, 2, none⟩ (.int .i64 0)) := (Chg.refl _ w1).setCell (p := ⟨X, 2, none⟩) _ (fun _ => rfl)
        have hcC : Chg (fun b => b = F ∨ b = X) wq (w1.setCell ⟨X, 2, none⟩ (.int .i64 0)) := (hcA.mono (fun _ _ e => .inl e)).trans hcB (fun _ _ e => .inr e)
        have BXv : As (Blk (w1.setCell ⟨X, 2, none⟩ (.int .i64 0)) X 110 [cphV B, .slice (some ⟨F, 0, none⟩) n n, .int .i64 ((ofS (encL perm sub mask) n s).2 : Int)]) := ⟨by rw [HSS.out]; exact hset⟩
        have OFv : As (Own (w1.setCell ⟨X, 2, none⟩ (.int .i64 0)) base 5 .u8 (.slice (some ⟨F, 0, none⟩) n n) (ofS (encL perm sub mask) n s).1) := ⟨by rw [HSS.out]; exact own_chg ho1 hcB (fun b hb e => by injection hb with hb; subst hb; exact HXF.out e.symm)⟩
        have ODv := As.mk (own_chg ODq.out hcC (fun b hb e => by injection hb with hb; subst hb; have hh := HS.out.2.2.2.1; rcases e with e | e; exact hh.2 e; exact hh.1 e))
        have CV : As (Chg (fun b => b = D ∨ b = X ∨ b = F) w (w1.setCell ⟨X, 2, none⟩ (.int .i64 0))) := ⟨CQ.out.trans hcC (fun b _ e => by rcases e with e | e; exact .inr (.inr e); exact .inr (.inl e))⟩
        have hcv : (w1.setCell ⟨X, 2, none⟩ (.int .i64 0)).cell? (ad.add k) = some (.int .u8 p) := (hcC.cell (p := ad.add k) (by rw [add_block]; exact Nat.lt_of_lt_of_le HADB.out KQ.out.size) (fun e => by rw [add_block] at e; have hh := HAD.out; rcases e with e | e; exact hh.2.2 e; exact hh.2.1 e)).trans hcq
        clear hcA BX1 hset hcB hcC ho1 hc1 x0 x1 x2 hcq BXq OFq ODq CQ
        go_wp2_with fail
        clear y2 fz2
        generalize w1.setCell ⟨X, 2, none⟩ (.int .i64 0) = wv at *
        obtain ⟨u, hu⟩ : ∃ u, u = ofS (encL perm sub mask) n s := ⟨_, rfl⟩
        have HU := As.mk hu
        rw [← hu] at BXv OFv
        have hul : u.2 < n := by rw [hu]; exact hcase.out.2.2
        have hok : OkS n u := by rw [hu]; exact hcase.out.2.1
        have HOK := As.mk hok
        clear hu hok
        have a0 := BXv.out.cell 0
        have a1 := BXv.out.cell 1
        have a2 := BXv.out.cell 2
        simp only [List.getElem?_cons_zero, List.getElem?_cons_succ] at a0 a1 a2
        obtain ⟨f0, _⟩ := own_at OFv.out u.2 (by rw [HOK.out.1]; exact hul)
        rw [rd_nat] at f0
        have HCV : As (ofC (encL perm sub mask) n s p = Go.bits .xor .u8 (u.1.getD u.2 0) p) := ⟨by unfold ofC; rw [← HU.out]⟩
        have hub := HOK.out.2.1.getD u.2
        obtain ⟨q0, q1⟩ := hub
        obtain ⟨uu, huu⟩ : ∃ uu, uu = u.2 := ⟨_, rfl⟩
        have hul2 : uu < n := by rw [huu]; exact hul
        have hul3 : (uu : Int) < (n : Int) := by omega
        rw [← huu] at a2 f0 HCV q0 q1 BXv
        have HUU := As.mk huu
        generalize hq : u.1.getD uu 0 = q at *
        obtain ⟨_, fz⟩ := own_at ODv.out k (by rw [List.length_append, HOUTL.out, List.length_drop, ← HZL.out]; omega)
        obtain ⟨fd, _⟩ := own_at ODv.out k (by rw [List.length_append, HOUTL.out, List.length_drop, ← HZL.out]; omega)
        generalize hcc : Go.bits .xor .u8 q p = cc at *
        have hcD : Chg (fun b => b = D) wv (wv.setCell ⟨D, k, none⟩ (.int .u8 cc)).drew := ((Chg.refl (fun b => b = D) wv).setCell (p := ⟨D, k, none⟩) _ (fun _ => rfl)).drew
        have OD4 : As (Own (wv.setCell ⟨D, k, none⟩ (.int .u8 cc)).drew base2 5 .u8 (.slice (some ⟨D, 0, none⟩) m m) (outD (encL perm sub mask) n st (src.take (k + 1)) ++ zs.drop (k + 1))) := ⟨by
          have h := own_keep (own_set ODv.out k cc) ((Chg.refl NoB _).drew)
          rw [set_front HOUTL.out (by rw [← HZL.out]; exact hlt)] at h
          rw [HSTEP.out.1, HCV.out]
          exact h⟩
        have OF4 := As.mk (own_chg OFv.out hcD (fun b hb e => by injection hb with hb; subst hb; exact HS.out.2.2.2.1.2 e.symm))
        have BX4 := As.mk (BXv.out.chg hcD (fun e => HS.out.2.2.2.1.1 e.symm))
        have C4 : As (Chg (fun b => b = D ∨ b = X ∨ b = F) w (wv.setCell ⟨D, k, none⟩ (.int .u8 cc)).drew) := ⟨CV.out.trans hcD (fun _ _ e => .inl e)⟩
        have HCC := As.mk hcc
        rw [← hcc] at OD4 OF4 BX4 C4
        clear hcD huu hul hq hcc
        have OD4' := OD4
        go_still_tail 18, (by kernel_rfl)
        change wpList _ _ _ _ _ (World.drew wv)
        go_wp2
        clear a0 a1 a2 f0 hcv fz fd OD4'
        generalize (wv.setCell ⟨D, k, none⟩ (.int .u8 (Go.bits .xor .u8 q p))).drew = w4 at *
        have a0 := BX4.out.cell 0
        have a1 := BX4.out.cell 1
        have a2 := BX4.out.cell 2
        simp only [List.getElem?_cons_zero, List.getElem?_cons_succ] at a0 a1 a2
        obtain ⟨f0, f1⟩ := own_at OF4.out uu (by rw [HOK.out.1]; exact hul2)
        have hcF : Chg (fun b => b = F) w4 (w4.setCell ⟨F, uu, none⟩ (.int .u8 p)).drew := ((Chg.refl (fun b => b = F) w4).setCell (p := ⟨F, uu, none⟩) _ (fun _ => rfl)).drew
        have OF5 : As (Own (w4.setCell ⟨F, uu, none⟩ (.int .u8 p)).drew base 5 .u8 (.slice (some ⟨F, 0, none⟩) n n) (u.1.set uu p)) := ⟨own_keep (own_set OF4.out uu _) ((Chg.refl NoB _).drew)⟩
        have BX5 := As.mk (BX4.out.chg hcF (fun e => HXF.out e))
        have OD5 := As.mk (own_chg OD4.out hcF (fun b hb e => by injection hb with hb; subst hb; exact HS.out.2.2.2.1.2 e))
        have C5 : As (Chg (fun b => b = D ∨ b = X ∨ b = F) w (w4.setCell ⟨F, uu, none⟩ (.int .u8 p)).drew) := ⟨C4.out.trans hcF (fun _ _ e => .inr (.inr e))⟩
        clear hcF OF4 BX4 OD4 C4
        have y2 := BX5.out.cell 2
        have fx2 := BX5.out.frozen 2
        simp only [List.getElem?_cons_zero, List.getElem?_cons_succ] at y2
        have y3 : (w4.setCell ⟨F, uu, none⟩ (.int .u8 p)).cell? ⟨X, 2, none⟩ = some (.int .i64 (uu : Int)) := y2
        have fx3 : (w4.setCell ⟨F, uu, none⟩ (.int .u8 p)).frozen? ⟨X, 2, none⟩ = false := fx2
        have hset := BX5.out.set_ 2 (.int .i64 ((uu : Int) + 1))
        have hcX : Chg (fun b => b = X) (w4.setCell ⟨F, uu, none⟩ (.int .u8 p)).drew ((w4.setCell ⟨F, uu, none⟩ (.int .u8 p)).drew.setCell ⟨X, 2, none⟩ (.int .i64 ((uu : Int) + 1))) := (Chg.refl (fun b => b = X) (w4.setCell ⟨F, uu, none⟩ (.int .u8 p)).drew).setCell (p := ⟨X, 2, none⟩) _ (fun _ => rfl)
        have BX6 : As (Blk ((w4.setCell ⟨F, uu, none⟩ (.int .u8 p)).drew.setCell ⟨X, 2, none⟩ (.int .i64 ((uu : Int) + 1))) X 110 [cphV B, .slice (some ⟨F, 0, none⟩) n n, .int .i64 ((uu : Int) + 1)]) := ⟨hset⟩
        have OF6 := As.mk (own_chg OF5.out hcX (fun b hb e => by injection hb with hb; subst hb; exact HXF.out e.symm))
        have OD6 := As.mk (own_chg OD5.out hcX (fun b hb e => by injection hb with hb; subst hb; exact HS.out.2.2.2.1.1 e))
        have C6 : As (Chg (fun b => b = D ∨ b = X ∨ b = F) w ((w4.setCell ⟨F, uu, none⟩ (.int .u8 p)).drew.setCell ⟨X, 2, none⟩ (.int .i64 ((uu : Int) + 1)))) := ⟨C5.out.trans hcX (fun _ _ e => .inr (.inl e))⟩
        clear hset hcX OF5 OD5 BX5 C5
        go_still_tail 10, (by kernel_rfl)
        change wpList _ _ _ _ _ (World.drew w4)
        go_wp2_with fail
        go_roundw
        case rel =>
          refine ⟨k + 1, by omega, by go_num, OD6, ⟨?_⟩, C6⟩
          rw [HSTEP.out.2]
          have hN : ofN (encL perm sub mask) n s p = (u.1.set uu p, uu + 1) := by
            unfold ofN
            rw [← HU.out, ← HUU.out]
          rw [hN]
          refine ⟨?_, OF6.out, HXF.out, by show uu + 1 ≤ n; omega, set_byt' HOK.out.2.1 _ ⟨p0, p1⟩⟩
          show Blk _ X 110 [cphV B, .slice (some ⟨F, 0, none⟩) n n, .int .i64 ((uu + 1 : Nat) : Int)]
          rw [show ((uu + 1 : Nat) : Int) = (uu : Int) + 1 from by omega]
          exact BX6.out
        case measure => simp [intOf]; omega
      · have hS : ofS (encL perm sub mask) n s = s := by unfold ofS; rw [if_neg hfull]
        have hbq : ((s.2 : Int) == (n : Int)) = false := by simp; omega
        have hbq2 : (s.2 == n) = false := by simp [hfull]
        have HSS := As.mk hS
        clear hS hfull hs2
        go_wp2
        go_quiet (fail)
        obtain ⟨wq, hwq⟩ : ∃ wq, wq = World.drewN wr nq := ⟨_, rfl⟩
        have KQ : As (Chg NoB wr wq) := ⟨by rw [hwq]; exact (Chg.refl NoB wr).drewN nq⟩
        rw [← hwq]
        have BXq := As.mk (BX.out.chg KQ.out (fun e => e))
        have OFq := As.mk (own_keep OF.out KQ.out)
        have ODq := As.mk (own_keep HROW.out KQ.out)
        have CQ : As (Chg (fun b => b = D ∨ b = X ∨ b = F) w wq) := ⟨HC.out.trans KQ.out (fun _ _ e => e.elim)⟩
        have hcq : wq.cell? (ad.add k) = some (.int .u8 p) := (KQ.out.cell (p := ad.add k) (by rw [add_block]; exact HADB.out) (fun e => e)).trans hcp
        clear hwq hcp x0 x1 x2 nq
        have x0 := BXq.out.cell 0
        have x1 := BXq.out.cell 1
        have x2 := BXq.out.cell 2
        simp only [List.getElem?_cons_zero, List.getElem?_cons_succ] at x0 x1 x2
        have BXv := BXq
        have OFv := OFq
        have ODv := ODq
        have CV := CQ
        have hcv := hcq
        clear BXq OFq ODq CQ hcq
        go_wp2_with fail
        clear x0 x1 x2
        obtain ⟨u, hu⟩ : ∃ u, u = ofS (encL perm sub mask) n s := ⟨_, rfl⟩
        have HU := As.mk hu
        have hus : s = u := by rw [hu]; exact HSS.out.symm
        rw [hus] at BXv OFv
        have hul : u.2 < n := by rw [hu]; exact hcase.out.2.2
        have hok : OkS n u := by rw [hu]; exact hcase.out.2.1
        have HOK := As.mk hok
        clear hu hok hus
        obtain ⟨wv, hwv⟩ : ∃ wv, wv = wq := ⟨_, rfl⟩
        rw [← hwv] at BXv OFv ODv CV hcv ⊢
        clear hwv
        have a0 := BXv.out.cell 0
        have a1 := BXv.out.cell 1
        have a2 := BXv.out.cell 2
        simp only [List.getElem?_cons_zero, List.getElem?_cons_succ] at a0 a1 a2
        obtain ⟨f0, _⟩ := own_at OFv.out u.2 (by rw [HOK.out.1]; exact hul)
        rw [rd_nat] at f0
        have HCV : As (ofC (encL perm sub mask) n s p = Go.bits .xor .u8 (u.1.getD u.2 0) p) := ⟨by unfold ofC; rw [← HU.out]⟩
        have hub := HOK.out.2.1.getD u.2
        obtain ⟨q0, q1⟩ := hub
        obtain ⟨uu, huu⟩ : ∃ uu, uu = u.2 := ⟨_, rfl⟩
        have hul2 : uu < n := by rw [huu]; exact hul
        have hul3 : (uu : Int) < (n : Int) := by omega
        rw [← huu] at a2 f0 HCV q0 q1 BXv
        have HUU := As.mk huu
        generalize hq : u.1.getD uu 0 = q at *
        obtain ⟨_, fz⟩ := own_at ODv.out k (by rw [List.length_append, HOUTL.out, List.length_drop, ← HZL.out]; omega)
        obtain ⟨fd, _⟩ := own_at ODv.out k (by rw [List.length_append, HOUTL.out, List.length_drop, ← HZL.out]; omega)
        generalize hcc : Go.bits .xor .u8 q p = cc at *
        have hcD : Chg (fun b => b = D) wv (wv.setCell ⟨D, k, none⟩ (.int .u8 cc)).drew := ((Chg.refl (fun b => b = D) wv).setCell (p := ⟨D, k, none⟩) _ (fun _ => rfl)).drew
        have OD4 : As (Own (wv.setCell ⟨D, k, none⟩ (.int .u8 cc)).drew base2 5 .u8 (.slice (some ⟨D, 0, none⟩) m m) (outD (encL perm sub mask) n st (src.take (k + 1)) ++ zs.drop (k + 1))) := ⟨by
          have h := own_keep (own_set ODv.out k cc) ((Chg.refl NoB _).drew)
          rw [set_front HOUTL.out (by rw [← HZL.out]; exact hlt)] at h
          rw [HSTEP.out.1, HCV.out]
          exact h⟩
        have OF4 := As.mk (own_chg OFv.out hcD (fun b hb e => by injection hb with hb; subst hb; exact HS.out.2.2.2.1.2 e.symm))
        have BX4 := As.mk (BXv.out.chg hcD (fun e => HS.out.2.2.2.1.1 e.symm))
        have C4 : As (Chg (fun b => b = D ∨ b = X ∨ b = F) w (wv.setCell ⟨D, k, none⟩ (.int .u8 cc)).drew) := ⟨CV.out.trans hcD (fun _ _ e => .inl e)⟩
        have HCC := As.mk hcc
        rw [← hcc] at OD4 OF4 BX4 C4
        clear hcD huu hul hq hcc
        have OD4' := OD4
        go_still_tail 18, (by kernel_rfl)
        change wpList _ _ _ _ _ (World.drew wv)
        go_wp2
        clear a0 a1 a2 f0 hcv fz fd OD4'
        generalize (wv.setCell ⟨D, k, none⟩ (.int .u8 (Go.bits .xor .u8 q p))).drew = w4 at *
        have a0 := BX4.out.cell 0
        have a1 := BX4.out.cell 1
        have a2 := BX4.out.cell 2
        simp only [List.getElem?_cons_zero, List.getElem?_cons_succ] at a0 a1 a2
        obtain ⟨f0, f1⟩ := own_at OF4.out uu (by rw [HOK.out.1]; exact hul2)
        have hcF : Chg (fun b => b = F) w4 (w4.setCell ⟨F, uu, none⟩ (.int .u8 p)).drew := ((Chg.refl (fun b => b = F) w4).setCell (p := ⟨F, uu, none⟩) _ (fun _ => rfl)).drew
        have OF5 : As (Own (w4.setCell ⟨F, uu, none⟩ (.int .u8 p)).drew base 5 .u8 (.slice (some ⟨F, 0, none⟩) n n) (u.1.set uu p)) := ⟨own_keep (own_set OF4.out uu _) ((Chg.refl NoB _).drew)⟩
        have BX5 := As.mk (BX4.out.chg hcF (fun e => HXF.out e))
        have OD5 := As.mk (own_chg OD4.out hcF (fun b hb e => by injection hb with hb; subst hb; exact HS.out.2.2.2.1.2 e))
        have C5 : As (Chg (fun b => b = D ∨ b = X ∨ b = F) w (w4.setCell ⟨F, uu, none⟩ (.int .u8 p)).drew) := ⟨C4.out.trans hcF (fun _ _ e => .inr (.inr e))⟩
        clear hcF OF4 BX4 OD4 C4
        have y2 := BX5.out.cell 2
        have fx2 := BX5.out.frozen 2
        simp only [List.getElem?_cons_zero, List.getElem?_cons_succ] at y2
        have y3 : (w4.setCell ⟨F, uu, none⟩ (.int .u8 p)).cell? ⟨X, 2, none⟩ = some (.int .i64 (uu : Int)) := y2
        have fx3 : (w4.setCell ⟨F, uu, none⟩ (.int .u8 p)).frozen? ⟨X, 2, none⟩ = false := fx2
        have hset := BX5.out.set_ 2 (.int .i64 ((uu : Int) + 1))
        have hcX : Chg (fun b => b = X) (w4.setCell ⟨F, uu, none⟩ (.int .u8 p)).drew ((w4.setCell ⟨F, uu, none⟩ (.int .u8 p)).drew.setCell ⟨X, 2, none⟩ (.int .i64 ((uu : Int) + 1))) := (Chg.refl (fun b => b = X) (w4.setCell ⟨F, uu, none⟩ (.int .u8 p)).drew).setCell (p := ⟨X, 2, none⟩) _ (fun _ => rfl)
        have BX6 : As (Blk ((w4.setCell ⟨F, uu, none⟩ (.int .u8 p)).drew.setCell ⟨X, 2, none⟩ (.int .i64 ((uu : Int) + 1))) X 110 [cphV B, .slice (some ⟨F, 0, none⟩) n n, .int .i64 ((uu : Int) + 1)]) := ⟨hset⟩
        have OF6 := As.mk (own_chg OF5.out hcX (fun b hb e => by injection hb with hb; subst hb; exact HXF.out e.symm))
        have OD6 := As.mk (own_chg OD5.out hcX (fun b hb e => by injection hb with hb; subst hb; exact HS.out.2.2.2.1.1 e))
        have C6 : As (Chg (fun b => b = D ∨ b = X ∨ b = F) w ((w4.setCell ⟨F, uu, none⟩ (.int .u8 p)).drew.setCell ⟨X, 2, none⟩ (.int .i64 ((uu : Int) + 1)))) := ⟨C5.out.trans hcX (fun _ _ e => .inr (.inl e))⟩
        clear hset hcX OF5 OD5 BX5 C5
        go_still_tail 10, (by kernel_rfl)
        change wpList _ _ _ _ _ (World.drew w4)
        go_wp2_with fail
        go_roundw
        case rel =>
          refine ⟨k + 1, by omega, by go_num, OD6, ⟨?_⟩, C6⟩
          rw [HSTEP.out.2]
          have hN : ofN (encL perm sub mask) n s p = (u.1.set uu p, uu + 1) := by
            unfold ofN
            rw [← HU.out, ← HUU.out]
          rw [hN]
          refine ⟨?_, OF6.out, HXF.out, by show uu + 1 ≤ n; omega, set_byt' HOK.out.2.1 _ ⟨p0, p1⟩⟩
          show Blk _ X 110 [cphV B, .slice (some ⟨F, 0, none⟩) n n, .int .i64 ((uu + 1 : Nat) : Int)]
          rw [show ((uu + 1 : Nat) : Int) = (uu : Int) + 1 from by omega]
          exact BX6.out
        case measure => simp [intOf]; omega
    · obtain rfl : k = m := by omega
      go_wp2
      go_end0
      have ho := HROW.out
      have hof := HOF.out
      have h1 : src.take k = src := List.take_of_length_le (by have := HN.out; omega)
      have h2 : zs.drop k = [] := List.drop_eq_nil_of_le (by have := HZL.out; omega)
      rw [h1, h2, List.append_nil] at ho
      rw [h1] at hof
      exact ⟨rfl, ho, hof, HC.out⟩
end Go.Proofs.Ytnhnfhdbbebclaa
