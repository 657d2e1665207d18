/- Counter mode: the contract of (*ctr).refill, where all that lay ready is used. -/
import Derived.Test.YthbgpbaneghmdaaSfaN
import Derived.Test.YthbgpbaneghmdaaCtrP
set_option linter.unusedVariables false
set_option linter.unusedSimpArgs false
namespace Go.Proofs.Ythbgpbaneghmdaa
open Go.RowKit V
/-- The first r blocks of the key stream. -/
def ksL (E : List Int → List Int) (c : List Int) : Nat → List Int
  | 0 => []
  | r + 1 => ksL E c r ++ E (incN r c)
theorem ksL_length {E : List Int → List Int} {c : List Int} (hE : ∀ x, (E x).length = 16) : ∀ r, (ksL E c r).length = 16 * r
  | 0 => rfl
  | r + 1 => by rw [ksL, List.length_append, ksL_length hE r, hE]; omega
theorem ksL_byt {E : List Int → List Int} {c : List Int} (hb : ∀ x, Byt (E x)) : ∀ r, Byt (ksL E c r)
  | 0 => Byt.nil
  | r + 1 => (ksL_byt hb r).append (hb _)
def ctrCells (B C cc O n u : Nat) : List Value := [cphV B, .slice (some ⟨C, 0, none⟩) 16 cc, .slice (some ⟨O, 0, none⟩) n 512, .int .i64 u]
/-- The state: a counter in block C, a row of key bytes in block O, n of them laid ready, all of them used. -/
structure Ctr (w : World) (base B X C cc O n : Nat) (cur zs : List Int) : Prop where
  blk : Blk w X 167 (ctrCells B C cc O n n)
  row : Own w base 5 .u8 (.slice (some ⟨C, 0, none⟩) 16 cc) cur
  out : Own w base 5 .u8 (.slice (some ⟨O, 0, none⟩) 512 512) zs
  xc : X ≠ C
  xo : X ≠ O
  co : C ≠ O
  cl : cur.length = 16
  bc : Byt cur
abbrev CtrF (X C O : Nat) : Nat → Prop := fun b => b = X ∨ b = C ∨ b = O
/-- What refill leaves. -/
def Filled (w : World) (base B X C cc O : Nat) (cur key : List Int) (w' : World) : Prop :=
  Blk w' X 167 (ctrCells B C cc O 512 0) ∧ Own w' base 5 .u8 (.slice (some ⟨C, 0, none⟩) 16 cc) cur ∧ Own w' base 5 .u8 (.slice (some ⟨O, 0, none⟩) 512 512) key ∧ Chg (CtrF X C O) w w'
theorem splice_ks {E : List Int → List Int} {c : List Int} (hE : ∀ x, (E x).length = 16) (zs : List Int) (i : Nat) (hz : zs.length = 512) (hi : i < 32) :
    splice (ksL E c i ++ zs.drop (16 * i)) (16 * i) (E (incN i c)) = ksL E c (i + 1) ++ zs.drop (16 * (i + 1)) := by
  have hl := ksL_length (c := c) hE i
  unfold splice
  rw [List.take_append_of_le_length (by omega), List.take_of_length_le (by omega), hE, List.drop_append, List.drop_eq_nil_of_le (by omega), List.nil_append, List.drop_drop, hl, ksL, show 16 * i + (16 * i + 16 - 16 * i) = 16 * (i + 1) by omega, List.append_assoc]
/-- The state within refill: i blocks are made. -/
structure RSt (w : World) (base B X C cc O n : Nat) (E : List Int → List Int) (cur zs : List Int) (i : Nat) (wr : World) : Prop where
  blk : Blk wr X 167 [cphV B, .slice (some ⟨C, 0, none⟩) 16 cc, .slice (some ⟨O, 0, none⟩) 512 512, .int .i64 n]
  row : Own wr base 5 .u8 (.slice (some ⟨C, 0, none⟩) 16 cc) (incN i cur)
  out : Own wr base 5 .u8 (.slice (some ⟨O, 0, none⟩) 512 512) (ksL E cur i ++ zs.drop (16 * i))
  chg : Chg (CtrF X C O) w wr
theorem wp_world {P : Program} {code : Code} {Q : Exit → Act → World → Prop} {a : Act} {w : World} (R : World → Prop) (h : R w) (k : ∀ w', R w' → code.wp P Q a w') : code.wp P Q a w := k w h
theorem Ctr.keep {w w' : World} {base B X C cc O n : Nat} {cur zs : List Int} (h : Ctr w base B X C cc O n cur zs) (hc : Chg NoB w w') : Ctr w' base B X C cc O n cur zs :=
  ⟨h.blk.chg hc (fun e => e), own_keep h.row hc, own_keep h.out hc, h.xc, h.xo, h.co, h.cl, h.bc⟩
set_option maxRecDepth 100000 in
set_option maxHeartbeats 4000000 in
theorem refill_any {w : World} {lo hi base B X C cc O n : Nat} {perm sub mask cur zs : List Int} (hC : Cph w lo hi B perm sub mask) (hr : RightB perm sub 16) (hm : mask.length = 16) (bs : Byt sub) (bm : Byt mask)
    (hS : Ctr w base B X C cc O n cur zs) (hn : n = 0 ∨ n = 512) (hap : ∀ b, lo ≤ b → b < hi → ¬ CtrF X C O b) :
    Calls Try.prog 132 #[.pointer (some ⟨X, 0, none⟩)] w fun e w' => e = .returned (.tuple #[]) ∧ Filled w base B X C cc O (incN 32 cur) (ksL (encL perm sub mask) cur 32) w' := by
  have CB := As.mk hC
  have HR := As.mk hr
  have HM := As.mk hm
  have HBY := As.mk (And.intro bs bm)
  have HS := As.mk hS
  have HAP := As.mk hap
  have HE : As (∀ x, (encL perm sub mask x).length = 16) := ⟨fun x => by rw [encL_length]; exact hm⟩
  have HZL : As (zs.length = 512) := ⟨(own_len hS.out).symm⟩
  have na := na_bs
  have me := me_bs
  have na2 := na_en
  have me2 := me_en
  have hxc : ¬ X = C := hS.xc
  have hcx : ¬ C = X := fun e => hxc e.symm
  have hxo : ¬ X = O := hS.xo
  have hox : ¬ O = X := fun e => hxo e.symm
  have x0 := hS.blk.cell 0
  have x1 := hS.blk.cell 1
  have x2 := hS.blk.cell 2
  have x3 := hS.blk.cell 3
  have z2 := hS.blk.frozen 2
  have z3 := hS.blk.frozen 3
  simp only [ctrCells, List.getElem?_cons_zero, List.getElem?_cons_succ] at x0 x1 x2 x3
  have hn1 : IntKind.i64.wrap ((n : Int) - (n : Int)) = 0 := by rw [Int.sub_self]; rfl
  have hn2 : n ≤ 512 := by omega
  obtain ⟨A1, kcut1, _, _⟩ := cut_from (P := Try.prog) 22 5 Try.underlying22 size8 (some ⟨O, 0, none⟩) n 512 (n : Int) .i64 0 (512 - n) (by omega) (by omega) (by omega) hn2
  have kcut2 := cut_to (P := Try.prog) 22 5 Try.underlying22 size8 (some ⟨O, 0, none⟩) n 512 (512 : Int) .i64 512 rfl (Nat.le_refl _)
  clear hC hr hm bs bm hS hap hn
  go_enter Try.func132, Try.ntmps132
  go_wp2_with fail
  go_quiet (fail)
  go_wp2_with fail
  refine wp_world (fun w' => Ctr w' base B X C cc O n cur zs ∧ Chg NoB w w') ⟨HS.out.keep ((Chg.refl NoB w).drewN nq), (Chg.refl NoB w).drewN nq⟩ ?_
  intro w1 h1
  have S1 := As.mk h1.1
  have C1 := As.mk h1.2
  clear h1 HS x0 x1 x2 x3 z2 z3 hn1
  have x2 := S1.out.blk.cell 2
  have x3 := S1.out.blk.cell 3
  simp only [ctrCells, List.getElem?_cons_zero, List.getElem?_cons_succ] at x2 x3
  go_still_tail 13, (by kernel_rfl)
  change wpList _ _ _ _ _ (World.drew w1)
  go_wp2_with ((with_reducible refine gate (N := 28) rfl ?_); refine wpList_copy_rk (et := 5) rfl _ _ 22 22 rfl base 5 .u8 Try.underlying22 size8 O 512 zs ?ho (some ⟨O, 0, none⟩) 0 n 512 ?h0 ?hd (fun _ => rfl) A1 [] (512 - n) ?hs Rk.none_ ?_; (case ho => rw [HZL.out]; exact own_keep S1.out.out ((Chg.refl NoB w1).drew)); (case h0 => rw [HZL.out]; omega); (case hd => rfl); (case hs => rfl); intro w2 ho2 hg2; have O2 := As.mk ho2; have G2 := As.mk (grown_chg hg2); clear ho2 hg2)
  have hsp : splice zs 0 (([] : List Int).take n) = zs := by simp [splice]
  have C2 : As (Chg (CtrF X C O) w w2) := ⟨((C1.out.mono (S' := CtrF X C O) (fun _ _ e => e.elim)).drew).trans G2.out (fun i hi e => .inr (.inr (by injection e with e; exact e.symm)))⟩
  have B2 := As.mk ((S1.out.blk.drew).chg G2.out (fun e => by injection e with e; exact hxo e.symm))
  have R2 := As.mk (own_chg (own_keep S1.out.row ((Chg.refl NoB w1).drew)) G2.out (fun b e q => by injection e with e; injection q with q; exact S1.out.co (e.trans q.symm)))
  have O2' : As (Own w2 base 5 .u8 (.slice (some ⟨O, 0, none⟩) 512 512) zs) := ⟨by have h := O2.out; rw [hsp, HZL.out] at h; exact h⟩
  have HK := As.mk (And.intro S1.out.cl S1.out.bc)
  have HCO := As.mk S1.out.co
  clear hsp O2 G2 x2 x3 S1 C1
  have x2 := B2.out.cell 2
  have z2 := B2.out.frozen 2
  simp only [ctrCells, List.getElem?_cons_zero, List.getElem?_cons_succ] at x2
  go_wp2_with fail
  go_still_tail 13, (by kernel_rfl)
  change wpList _ _ _ _ _ (World.drew w2)
  go_upto_region 3 with fail
  refine wp_world (fun w' => RSt w base B X C cc O n (encL perm sub mask) cur zs 0 w') ?hs0 ?_
  case hs0 =>
    have hc := ((Chg.refl (fun b => b = X) w2).drew).setCell (p := ⟨X, 2, none⟩) (.slice (some ⟨O, 0, none⟩) 512 512) (fun _ => rfl)
    exact ⟨(B2.out.drew).set_ 2 _, own_chg R2.out hc (fun b e q => by injection e with e; subst e; exact hcx q), own_chg (by simpa [ksL] using O2'.out) hc (fun b e q => by injection e with e; subst e; exact hox q), C2.out.trans hc (fun i hi e => .inl e)⟩
  intro w3 h3
  have S3 := As.mk h3
  clear h3 x2 z2 B2 R2 O2' C2
  have x0 := S3.out.blk.cell 0
  simp only [List.getElem?_cons_zero, List.getElem?_cons_succ] at x0
  have CB3 := As.mk (CB.out.chg S3.out.chg HAP.out)
  go_wp2_with fail
  refine (blockSize_any CB3.out HM.out).mono ?_
  rintro e4 w4 ⟨rfl, rfl⟩
  clear x0 CB3
  go_wp2_with fail
  go_loopw [2, 4] (fun rv _ wr => ∃ i p : Nat, rv = .int .i64 p ∧ i ≤ 32 ∧ p = 16 * i ∧ As (RSt w base B X C cc O n (encL perm sub mask) cur zs i wr)) (fun rv _ _ => 512 - (intOf rv).toNat)
  case atStart => exact ⟨0, 0, rfl, by omega, rfl, S3⟩
  case round =>
    clear S3
    obtain ⟨i, p, rfl, hi, hp, HST⟩ := hrel
    have x0 := HST.out.blk.cell 0
    have x1 := HST.out.blk.cell 1
    have x2 := HST.out.blk.cell 2
    have z2 := HST.out.blk.frozen 2
    have z3 := HST.out.blk.frozen 3
    have x3 := HST.out.blk.cell 3
    simp only [List.getElem?_cons_zero, List.getElem?_cons_succ] at x0 x1 x2 x3
    by_cases hlt : i < 32
    · have hp1 : (p : Int) ≤ 496 := by omega
      have hp2 : (0 : Int) ≤ (p : Int) := by omega
      have e1 : IntKind.i64.wrap ((p : Int) + 16) = ((p + 16 : Nat) : Int) := by rw [IntKind.wrap_i64]; omega
      obtain ⟨A5, kcut5, hA5, _⟩ := cut_from (P := Try.prog) 22 5 Try.underlying22 size8 (some ⟨O, 0, none⟩) 512 512 (p : Int) .i64 (512 - p) (512 - p) (by omega) (by omega) (by omega) (Nat.le_refl _)
      have hA5' : A5 = some ⟨O, p, none⟩ := by rw [hA5 (by omega)]; simp only [Option.map_some, add_lit0, Int.toNat_natCast]
      subst hA5'
      have HP := As.mk hp
      have HI := As.mk hlt
      clear hA5 hp
      go_wp2_with fail
      go_still_tail 16, (by kernel_rfl)
      change wpList _ _ _ _ _ (World.drew wr)
      go_wp2_with fail
      have hil : (incN i cur).length = 16 := by rw [incN_length]; exact HK.out.1
      have hib := incN_byt i cur HK.out.2
      refine (encrypt_any (g := O) (off := p) (N := 512) (cap := 512) (base := base) (xs := incN i cur) ((CB.out.chg HST.out.chg HAP.out).keep (Chg.refl NoB wr).drew) HR.out HM.out HBY.out.1 HBY.out.2 (own_keep HST.out.out ((Chg.refl NoB wr).drew)) (by have := HP.out; omega) (by have := HP.out; omega) ((own_reads HST.out.row).drew) hib hil.symm (Nat.le_refl _)).mono ?_
      rintro e6 w6 ⟨rfl, ho6, hc6⟩
      rw [HP.out, splice_ks HE.out zs i HZL.out HI.out] at ho6
      have O6 := As.mk ho6
      have C6 : As (Chg (CtrF X C O) w w6) := ⟨(HST.out.chg.drew).trans hc6 (fun _ _ e => .inr (.inr e))⟩
      have B6 := As.mk ((HST.out.blk.drew).chg hc6 (fun e => hxo e))
      have R6 := As.mk (own_chg (own_keep HST.out.row ((Chg.refl NoB wr).drew)) hc6 (fun b e q => by injection e with e; exact HCO.out (e.trans q)))
      clear ho6 hc6 x0 x1 x2 x3 z2 z3
      have x1 := B6.out.cell 1
      simp only [List.getElem?_cons_zero, List.getElem?_cons_succ] at x1
      have HFIN : As (∀ (wz : World) (c2 : List Int), c2 = incN (i + 1) cur → Own wz base 5 .u8 (.slice (some ⟨C, 0, none⟩) 16 cc) c2 → Chg (fun b => b = C) w6 wz → RSt w base B X C cc O n (encL perm sub mask) cur zs (i + 1) wz) := ⟨fun wz c2 hc2 ho hc =>
        ⟨B6.out.chg hc (fun e => hxc e), by rw [← hc2]; exact ho, own_chg O6.out hc (fun b e q => by injection e with e; exact HCO.out (q.symm.trans e.symm)), C6.out.trans hc (fun _ _ e => .inr (.inl e))⟩⟩
      go_wp2_with fail
      go_loopw [4] (fun iv wz => ∃ (k : Nat) (c2 : List Int), k ≤ 16 ∧ iv = .int .i64 ((k : Int) - 1) ∧ As (inc k c2 = incN (i + 1) cur) ∧ As (16 = c2.length ∧ Byt c2) ∧ As (Own wz base 5 .u8 (.slice (some ⟨C, 0, none⟩) 16 cc) c2) ∧ As (Chg (fun b => b = C) w6 wz)) (fun iv _ => (intOf iv + 1).toNat)
      case atStart => exact ⟨16, incN i cur, Nat.le_refl _, rfl, ⟨rfl⟩, ⟨hil.symm, hib⟩, R6, ⟨Chg.refl _ _⟩⟩
      case round =>
        rename_i wz
        obtain ⟨k, c2, hk, rfl, HI2, HL, HOC, HCC⟩ := hrel
        have BZ := As.mk (B6.out.chg HCC.out (fun e => hxc e))
        clear x1
        have x1 := BZ.out.cell 1
        simp only [List.getElem?_cons_zero, List.getElem?_cons_succ] at x1
        cases k with
        | zero =>
          have hneg : ¬ ((0 : Int) ≤ ((0 : Nat) : Int) - 1) := by omega
          go_wp2_with fail
          go_roundw
          case rel => exact ⟨i + 1, p + 16, rfl, by omega, by have := HP.out; omega, ⟨HFIN.out _ c2 HI2.out HOC.out HCC.out⟩⟩
          case measure => have := HP.out; simp [intOf]; omega
        | succ k =>
          have e : (((k + 1 : Nat) : Int) - 1) = (k : Int) := by omega
          rw [e]
          obtain ⟨hc0, fz⟩ := own_at HOC.out k (by have := HL.out.1; omega)
          rw [rd_nat] at hc0
          have hx := HL.out.2.getD k
          have HSET := As.mk (own_set HOC.out k)
          obtain ⟨x, hxe⟩ : ∃ x, x = c2.getD k 0 := ⟨_, rfl⟩
          have HXE := As.mk hxe
          rw [← hxe] at hc0 hx
          have hk0 : (0 : Int) ≤ (k : Int) := by omega
          have hk1 : (k : Int) < 16 := by omega
          clear hxe e
          by_cases h255 : x = 255
          · subst h255
            have HI3 : As (inc k (c2.set k 0) = incN (i + 1) cur) := ⟨by have h := HI2.out; unfold inc at h; rwa [if_pos HXE.out.symm] at h⟩
            have hy : IntKind.u8.wrap (255 + 1) = 0 := by decide
            have e9 : IntKind.i64.wrap ((k : Int) - 1) = (k : Int) - 1 := by rw [IntKind.wrap_i64]; omega
            go_wp2_with fail
            go_roundw
            case rel => exact ⟨k, c2.set k 0, by omega, rfl, HI3, ⟨by rw [List.length_set]; exact HL.out.1, fun z hz => by rcases List.mem_or_eq_of_mem_set hz with h2 | h2; exact HL.out.2 z h2; rw [h2]; omega⟩, ⟨HSET.out 0⟩, ⟨HCC.out.setCell (p := ⟨C, k, none⟩) _ (fun _ => rfl)⟩⟩
            case measure => simp [intOf]
          · obtain ⟨y, hy⟩ : ∃ y, y = x + 1 := ⟨_, rfl⟩
            have HI3 : As (c2.set k y = incN (i + 1) cur) := ⟨by have h := HI2.out; unfold inc at h; rw [if_neg (by rw [← HXE.out]; exact h255)] at h; rw [hy, HXE.out]; exact h⟩
            have hy2 : IntKind.u8.wrap y = y := by simp [IntKind.wrap, IntKind.bits, IntKind.signed]; omega
            have hy3 : (y != 0) = true := by simp; omega
            have hy4 : x + 1 = y := hy.symm
            clear hy
            go_wp2_with fail
            go_roundw
            case rel => exact ⟨i + 1, p + 16, rfl, by omega, by have := HP.out; omega, ⟨HFIN.out _ _ HI3.out (HSET.out y) (HCC.out.setCell (p := ⟨C, k, none⟩) _ (fun _ => rfl))⟩⟩
            case measure => have := HP.out; simp [intOf]; omega
    · have hp1 : ¬ (p : Int) ≤ 496 := by omega
      have hp5 : p = 512 := by omega
      have hi5 : i = 32 := by omega
      subst hp5
      subst hi5
      have kcut6 := cut_to (P := Try.prog) 22 5 Try.underlying22 size8 (some ⟨O, 0, none⟩) 512 512 (512 : Int) .i64 512 rfl (Nat.le_refl _)
      go_wp2_with fail
      go_end0
      have hout : ksL (encL perm sub mask) cur 32 ++ zs.drop (16 * 32) = ksL (encL perm sub mask) cur 32 := by rw [List.drop_eq_nil_of_le (by rw [HZL.out]; omega), List.append_nil]
      have ho := HST.out.out
      rw [hout] at ho
      have hc := (((Chg.refl (fun b => b = X) wr).setCell (p := ⟨X, 2, none⟩) (.slice (some ⟨O, 0, none⟩) 512 512) (fun _ => rfl))).setCell (p := ⟨X, 3, none⟩) (.int .i64 0) (fun _ => rfl)
      exact ⟨rfl, ((HST.out.blk.set_ 2 _).set_ 3 _), own_chg HST.out.row hc (fun b e q => by injection e with e; subst e; exact hcx q), own_chg ho hc (fun b e q => by injection e with e; subst e; exact hox q), HST.out.chg.trans hc (fun i hi e => .inl e)⟩
end Go.Proofs.Ythbgpbaneghmdaa
