/- The contract of impl.called on an AEAD. -/
import Derived.Test.YthbgpbaneghmdaaOuts
import Derived.Deep.RegionHeld3
set_option linter.unusedVariables false
set_option linter.unusedSimpArgs false
namespace Go.Proofs.Ythbgpbaneghmdaa
open Go.RowKit V
set_option maxRecDepth 100000 in
set_option maxHeartbeats 8000000 in
theorem called_any {w : World} {lo hi B E : Nat} {perm sub mask : List Int} (hC : Cph w lo hi B perm sub mask) (hr : RightB perm sub 16) (hm : mask.length = 16) (bs : Byt sub) (bm : Byt mask) (hE : Eax w E B 16 16) (hhi : hi ≤ w.heap.size)
    (A : Option Addr) (n c : Nat) (cs : List Cal) (hn : n = cs.length) (hrc : Rcs w A cs) (hf : Few 16 cs) :
    Calls Try.prog 37 #[.iface 86 (.pointer (some ⟨E, 0, none⟩)), .slice A n c] w fun e w' => ∃ v, e = .returned v ∧ Outs w' w.heap.size v (cs.map (outOf perm sub mask)) ∧ Chg NoB w w' := by
  have CB := As.mk hC
  have HR := As.mk hr
  have HM := As.mk hm
  have HBY := As.mk (And.intro bs bm)
  have HEX := As.mk hE
  have HHI := As.mk hhi
  have HRC := As.mk hrc
  have HN := As.mk hn
  have HF := As.mk hf
  have hn40 : n ≤ 40 := by rw [hn]; exact hf.2
  have na1 := na_ns
  have me1 := me_ns
  have na2 := na_se
  have me2 := me_se
  have na3 := na_op
  have me3 := me_op
  clear hC hr hm bs bm hE hhi hrc hn hf
  go_enter Try.func37, Try.ntmps37
  go_wp2_with fail
  go_loopw [5, 12] (fun v iv wr => ∃ (k : Nat) (rv : Value), rv = v ∧ k ≤ n ∧ iv = .int .i64 k ∧ As (Outs wr w.heap.size rv ((cs.take k).map (outOf perm sub mask))) ∧ As (Chg NoB w wr)) (fun _ iv _ => n - (intOf iv).toNat)
  case atStart => exact ⟨0, _, rfl, Nat.zero_le _, rfl, ⟨Outs.nil _ _⟩, ⟨Chg.refl _ _⟩⟩
  case round =>
    obtain ⟨k, rv, rfl, hk, rfl, HO, HC⟩ := hrel
    by_cases hlt : k < n
    · have hltz : (k : Int) < (n : Int) := by omega
      have hkc : k < cs.length := by have := HN.out; omega
      obtain ⟨ad, eA, g0, g1, g2, g3⟩ := (HRC.out.keep HC.out).at_ k hkc
      subst eA
      have HTK : As ((cs.take (k + 1)).map (outOf perm sub mask) = (cs.take k).map (outOf perm sub mask) ++ [outOf perm sub mask cs[k]]) := ⟨by
        rw [List.take_succ_eq_append_getElem hkc, List.map_append]; rfl⟩
      have HXK := As.mk ((HRC.out.keep HC.out).2.2 _ (List.getElem_mem hkc))
      have hfew := HF.out.1 _ (List.getElem_mem hkc)
      generalize cs[k] = x at *
      obtain ⟨op, ⟨Aa, la, ca⟩, nonce, ⟨Ab, lb, cb⟩, text, ⟨Ac, lc, cc⟩, hdr⟩ := x
      simp only at g0 g1 g2 g3 hfew
      obtain ⟨hla, hlbc⟩ := hfew
      subst hla
      obtain ⟨⟨ka1, ka2, ka3, ka4⟩, ⟨kb1, kb2, kb3, kb4⟩, kc1, kc2, kc3, kc4⟩ := HXK.out
      simp only at ka1 ka2 ka3 ka4 kb1 kb2 kb3 kb4 kc1 kc2 kc3 kc4
      have KA := As.mk (And.intro ka1 (And.intro ka3 ka4))
      have KB := As.mk (And.intro kb1 (And.intro kb3 kb4))
      have KC := As.mk (And.intro kc1 (And.intro kc3 kc4))
      have e1 : IntKind.i64.wrap ((k : Int) + 1) = ((k + 1 : Nat) : Int) := by rw [IntKind.wrap_i64]; omega
      clear ka1 ka2 ka3 ka4 kb1 kb2 kb3 kb4 kc1 kc2 kc3 kc4 HXK
      go_upto_region 5 with fail
      obtain ⟨D, hD⟩ : ∃ D, D = wr.heap.size := ⟨_, rfl⟩
      simp only [← hD]
      refine wp_world (fun w' => Blk w' D 63 [.bool op, .slice Aa 16 ca, .slice Ab lb cb, .slice Ac lc cc] ∧ Chg NoB wr w') ⟨by rw [hD]; exact Blk.new wr _ [.bool op, .slice Aa 16 ca, .slice Ab lb cb, .slice Ac lc cc], (Chg.refl NoB wr).alloc _⟩ ?_
      intro w1 h1
      have B1 := As.mk h1.1
      have C1 := As.mk (HC.out.trans h1.2 (fun _ _ e => e))
      have HO1 := As.mk (HO.out.keep h1.2)
      have X1 := As.mk h1.2
      have HDR : As (∀ b, rv.ownBlock = some b → b < D) := ⟨fun b e => by obtain ⟨_, _, q, _⟩ := HO.out; rw [hD]; exact (q.lt b e).2⟩
      clear h1 hD g0 g1 g2 g3
      have d1 := B1.out.cell 1
      simp only [List.getElem?_cons_zero, List.getElem?_cons_succ] at d1
      go_quiet ((go_at_call 93; exact Calls.quiet_of_same (nonceSize_any (HEX.out.chg (C1.out.drewN _) (fun e => e)))))
      go_upto_region 7 with fail
      refine wp_world (fun w' => Blk w' D 63 [.bool op, .slice Aa 16 ca, .slice Ab lb cb, .slice Ac lc cc] ∧ Chg NoB w1 w') ⟨B1.out.drewN nq, (Chg.refl NoB w1).drewN nq⟩ ?_
      intro w2 h2
      have B2 := As.mk h2.1
      have C2 := As.mk (C1.out.trans h2.2 (fun _ _ e => e))
      obtain ⟨vs, hvl, hvo, hvi⟩ := HO1.out.keep h2.2
      have HVL := As.mk hvl
      have HVO := As.mk hvo
      have HVI := As.mk hvi
      have x2 := X1.out.trans h2.2 (fun _ _ e => e)
      have KA2 := As.mk (And.intro KA.out.1 (And.intro (KA.out.2.1.keep x2) KA.out.2.2))
      have KB2 := As.mk (And.intro KB.out.1 (And.intro (KB.out.2.1.keep x2) KB.out.2.2))
      have KC2 := As.mk (And.intro KC.out.1 (And.intro (KC.out.2.1.keep x2) KC.out.2.2))
      clear KA KB KC x2 X1
      have KA := KA2
      have KB := KB2
      have KC := KC2
      clear KA2 KB2 KC2
      clear h2 d1 B1 C1 HO1 HC HO hvl hvo hvi
      have HB : As (Chg NoB w2 w2) := ⟨Chg.refl _ _⟩
      have KP : As (∀ w', Chg (fun b => rv.ownBlock = some b) w2 w' → w'.cell? ⟨D, 1, none⟩ = some (.slice Aa 16 ca) ∧ w'.cell? ⟨D, 2, none⟩ = some (.slice Ab lb cb) ∧ w'.cell? ⟨D, 3, none⟩ = some (.slice Ac lc cc)) := ⟨fun w' hc => by
        have hb := B2.out.chg hc (fun e => Nat.lt_irrefl _ (HDR.out D e))
        exact ⟨hb.cell 1, hb.cell 2, hb.cell 3⟩⟩
      have d0 := B2.out.cell 0
      simp only [List.getElem?_cons_zero] at d0
      have HLT : As ((List.map (outOf perm sub mask) (List.take k cs)).length = k) := ⟨by rw [List.length_map, List.length_take]; have := HN.out; omega⟩
      cases op with
      | false =>
        go_upto_region 8 with fail
        go_region_held3 (fun w' => w'.cell? ⟨D, 1, none⟩ = some (.slice Aa 16 ca) ∧ w'.cell? ⟨D, 2, none⟩ = some (.slice Ab lb cb) ∧ w'.cell? ⟨D, 3, none⟩ = some (.slice Ac lc cc)) (exact KP.out _ (by repeat (first | exact HB.out.mono (fun _ _ e => e.elim) | (with_reducible exact HBF.out) | (with_reducible apply Chg.drew) | (with_reducible apply Chg.alloc)))) (first
        | (go_at_call 28
           with_reducible refine (own_any Aa 16 ca nonce _ KA.out.1 (KA.out.2.1.keep ?r3) ?s3).mono ?_
           case r3 => exact (by repeat (first | (with_reducible exact HB.out) | (with_reducible apply Chg.drew) | (with_reducible apply Chg.alloc)))
           case s3 => (have := KA.out.1; omega)
           rintro e w3 ⟨v3, rfl, ho3, hc3⟩
           obtain ⟨A3, c3, hv3, hn3, hr3⟩ := ow_form (ow_of ho3)
           rw [← KA.out.1] at hv3 hn3
           subst hv3
           have R3 := As.mk hr3
           have N3 := As.mk hn3

           have HB3 : As (Chg NoB w2 w3) := ⟨Chg.trans (by repeat (first | (with_reducible exact HB.out) | (with_reducible apply Chg.drew) | (with_reducible apply Chg.alloc))) hc3 (fun _ _ e => e)⟩
           clear HB hc3 ho3 hr3 hn3
           have HB := HB3
           clear HB3)
        | (go_at_call 28
           with_reducible refine (own_any Ab lb cb text _ KB.out.1 (KB.out.2.1.keep ?r4) ?s4).mono ?_
           case r4 => exact (by repeat (first | (with_reducible exact HB.out) | (with_reducible apply Chg.drew) | (with_reducible apply Chg.alloc)))
           case s4 => (have := KB.out.1; omega)
           rintro e w4 ⟨v4, rfl, ho4, hc4⟩
           obtain ⟨A4, c4, hv4, hn4, hr4⟩ := ow_form (ow_of ho4)
           rw [← KB.out.1] at hv4 hn4
           subst hv4
           have R4 := As.mk hr4
           have N4 := As.mk hn4
           have R3n := As.mk (R3.out.keep (Chg.trans (S' := NoB) (by repeat (first | exact Chg.refl _ _ | (with_reducible apply Chg.drew) | (with_reducible apply Chg.alloc))) hc4 (fun _ _ e => e)))
           clear R3
           have R3 := R3n
           clear R3n
           have HB4 : As (Chg NoB w2 w4) := ⟨Chg.trans (by repeat (first | (with_reducible exact HB.out) | (with_reducible apply Chg.drew) | (with_reducible apply Chg.alloc))) hc4 (fun _ _ e => e)⟩
           clear HB hc4 ho4 hr4 hn4
           have HB := HB4
           clear HB4)
        | (go_at_call 28
           with_reducible refine (own_any Ac lc cc hdr _ KC.out.1 (KC.out.2.1.keep ?r5) ?s5).mono ?_
           case r5 => exact (by repeat (first | (with_reducible exact HB.out) | (with_reducible apply Chg.drew) | (with_reducible apply Chg.alloc)))
           case s5 => (have := KC.out.1; omega)
           rintro e w5 ⟨v5, rfl, ho5, hc5⟩
           obtain ⟨A5, c5, hv5, hn5, hr5⟩ := ow_form (ow_of ho5)
           rw [← KC.out.1] at hv5 hn5
           subst hv5
           have R5 := As.mk hr5
           have N5 := As.mk hn5
           have R3n := As.mk (R3.out.keep (Chg.trans (S' := NoB) (by repeat (first | exact Chg.refl _ _ | (with_reducible apply Chg.drew) | (with_reducible apply Chg.alloc))) hc5 (fun _ _ e => e)))
           clear R3
           have R3 := R3n
           clear R3n
           have R4n := As.mk (R4.out.keep (Chg.trans (S' := NoB) (by repeat (first | exact Chg.refl _ _ | (with_reducible apply Chg.drew) | (with_reducible apply Chg.alloc))) hc5 (fun _ _ e => e)))
           clear R4
           have R4 := R4n
           clear R4n
           have HB5 : As (Chg NoB w2 w5) := ⟨Chg.trans (by repeat (first | (with_reducible exact HB.out) | (with_reducible apply Chg.drew) | (with_reducible apply Chg.alloc))) hc5 (fun _ _ e => e)⟩
           clear HB hc5 ho5 hr5 hn5
           have HB := HB5
           clear HB5)
        | (go_at_call 96
           refine (seal_any (w := w5) (CB.out.keep (C2.out.trans HB.out (fun _ _ e => e))) HR.out HM.out HBY.out.1 HBY.out.2 (HEX.out.chg (C2.out.trans HB.out (fun _ _ e => e)) (fun e => e)) R3.out KA.out.1 (Nat.le_refl 16) KA.out.2.2 R4.out KB.out.1 N4.out KB.out.2.2 R5.out KC.out.1 KC.out.2.2 (by omega) (by omega) (Nat.le_trans HHI.out (C2.out.trans HB.out (fun _ _ e => e)).size)).mono ?_
           rintro e w6 ⟨g6, rfl, ho6, hc6⟩
           have O6 := As.mk ho6
           have HB6 : As (Chg NoB w2 w6) := ⟨HB.out.trans hc6 (fun _ _ e => e)⟩
           have HZ6 := As.mk (HB.out.size)
           clear HB hc6 ho6
           have HB := HB6
           clear HB6)
        | (refine step_append_s (N := 52) rfl rfl _ _ 38 rfl 76 2 (.agg #[.slice none 0 0, .bool false]) 32 Try.underlying38 infoOut rfl (by decide) (by decide) rv w.heap.size (List.map (outOf perm sub mask) (List.take k cs)).length (vs.flatMap outCells) _ 1 [.slice (some ⟨g6, 0, none⟩) (lb + 16) (lb + 16), .bool true] rfl rfl ?k1 rfl ?k2 (by simp [Value.oneCell']) ?k4 ?k5 ?_
           case k1 => exact row_keep HVO.out (by repeat (first | (with_reducible exact HB.out) | (with_reducible apply Chg.drew) | (with_reducible apply Chg.alloc)))
           case k2 => exact (Blk.new w6 _ [.slice (some ⟨g6, 0, none⟩) (lb + 16) (lb + 16), .bool true]).news
           case k4 => exact Nat.le_trans C2.out.size (Chg.size (S := NoB) (by repeat (first | (with_reducible exact HB.out) | (with_reducible apply Chg.drew) | (with_reducible apply Chg.alloc))))
           case k5 => (simp only [List.length_map, List.length_take]; omega)
           intro v7 w7 h2 h3 h5
           have hal := (Chg.refl NoB w6).alloc (.cells #[.slice (some ⟨g6, 0, none⟩) (lb + 16) (lb + 16), .bool true] 76)
           have hb6 := own_block_lt O6.out g6 rfl
           have hz6 := HZ6.out
           have HO7 := As.mk (Outs.snoc (p := ((some ⟨g6, 0, none⟩, lb + 16, lb + 16), true)) (x := outOf perm sub mask ⟨false, (Aa, 16, ca), nonce, (Ab, lb, cb), text, (Ac, lc, cc), hdr⟩) HVL.out (row_keep HVO.out (HB.out.trans hal (fun _ _ e => e))) (fun i p x a b => ⟨(HVI.out i p x a b).1, (HVI.out i p x a b).2.chg (HB.out.trans hal (fun _ _ e => e)) (fun _ _ _ e => e)⟩) rfl
             ⟨own_len O6.out, Nat.le_of_eq (own_len O6.out).symm, (own_reads O6.out).keep hal, fun ad e => by injection e with e; subst e; exact ⟨fun e2 => by have h9 : g6 < w2.heap.size := (HVO.out.lt _ e2).2; omega, Nat.lt_of_lt_of_le hb6.2 hal.size⟩⟩ h2 h3 h5)
           have C7 := As.mk (((C2.out.trans HB.out (fun _ _ e => e)).trans hal (fun _ _ e => e)).trans (S' := fun b => rv.ownBlock = some b) (grown_chg h3) (fun i hi e => absurd (HVO.out.lt i e).1 (by omega)))
           have HBF := As.mk (((HB.out.trans hal (fun _ _ e => e)).mono (S' := fun b => rv.ownBlock = some b) (fun _ _ e => e.elim)).trans (grown_chg h3) (fun i hi e => e))
           clear h2 h3 h5 hal HB hb6 hz6))
        all_goals
          go_wp2_with fail
          go_roundw
          case rel => exact ⟨k + 1, v7, rfl, by omega, by go_num, ⟨by rw [HTK.out]; exact HO7.out⟩, C7⟩
          case measure => simp [intOf]; omega
      | true =>
        obtain ⟨ro, hro⟩ : ∃ ro, ro = eaxOpenL perm sub mask nonce text hdr := ⟨_, rfl⟩
        have HRO := As.mk hro
        cases ro with
        | none =>
          have HOF : As (outOf perm sub mask ⟨true, (Aa, 16, ca), nonce, (Ab, lb, cb), text, (Ac, lc, cc), hdr⟩ = ([], false)) := ⟨by unfold outOf; simp only [if_true]; rw [← hro]⟩
          clear hro
          go_upto_region 9 with fail
          go_region_held3 (fun w' => w'.cell? ⟨D, 1, none⟩ = some (.slice Aa 16 ca) ∧ w'.cell? ⟨D, 2, none⟩ = some (.slice Ab lb cb) ∧ w'.cell? ⟨D, 3, none⟩ = some (.slice Ac lc cc)) (exact KP.out _ (by repeat (first | exact HB.out.mono (fun _ _ e => e.elim) | (with_reducible apply Chg.drew) | (with_reducible apply Chg.alloc)))) (first
          | (go_at_call 28
             with_reducible refine (own_any Aa 16 ca nonce _ KA.out.1 (KA.out.2.1.keep ?r3) ?s3).mono ?_
             case r3 => exact (by repeat (first | (with_reducible exact HB.out) | (with_reducible apply Chg.drew) | (with_reducible apply Chg.alloc)))
             case s3 => (have := KA.out.1; omega)
             rintro e w3 ⟨v3, rfl, ho3, hc3⟩
             obtain ⟨A3, c3, hv3, hn3, hr3⟩ := ow_form (ow_of ho3)
             rw [← KA.out.1] at hv3 hn3
             subst hv3
             have R3 := As.mk hr3
             have N3 := As.mk hn3

             have HB3 : As (Chg NoB w2 w3) := ⟨Chg.trans (by repeat (first | (with_reducible exact HB.out) | (with_reducible apply Chg.drew) | (with_reducible apply Chg.alloc))) hc3 (fun _ _ e => e)⟩
             clear HB hc3 ho3 hr3 hn3
             have HB := HB3
             clear HB3)
          | (go_at_call 28
             with_reducible refine (own_any Ab lb cb text _ KB.out.1 (KB.out.2.1.keep ?r4) ?s4).mono ?_
             case r4 => exact (by repeat (first | (with_reducible exact HB.out) | (with_reducible apply Chg.drew) | (with_reducible apply Chg.alloc)))
             case s4 => (have := KB.out.1; omega)
             rintro e w4 ⟨v4, rfl, ho4, hc4⟩
             obtain ⟨A4, c4, hv4, hn4, hr4⟩ := ow_form (ow_of ho4)
             rw [← KB.out.1] at hv4 hn4
             subst hv4
             have R4 := As.mk hr4
             have N4 := As.mk hn4
             have R3n := As.mk (R3.out.keep (Chg.trans (S' := NoB) (by repeat (first | exact Chg.refl _ _ | (with_reducible apply Chg.drew) | (with_reducible apply Chg.alloc))) hc4 (fun _ _ e => e)))
             clear R3
             have R3 := R3n
             clear R3n
             have HB4 : As (Chg NoB w2 w4) := ⟨Chg.trans (by repeat (first | (with_reducible exact HB.out) | (with_reducible apply Chg.drew) | (with_reducible apply Chg.alloc))) hc4 (fun _ _ e => e)⟩
             clear HB hc4 ho4 hr4 hn4
             have HB := HB4
             clear HB4)
          | (go_at_call 28
             with_reducible refine (own_any Ac lc cc hdr _ KC.out.1 (KC.out.2.1.keep ?r5) ?s5).mono ?_
             case r5 => exact (by repeat (first | (with_reducible exact HB.out) | (with_reducible apply Chg.drew) | (with_reducible apply Chg.alloc)))
             case s5 => (have := KC.out.1; omega)
             rintro e w5 ⟨v5, rfl, ho5, hc5⟩
             obtain ⟨A5, c5, hv5, hn5, hr5⟩ := ow_form (ow_of ho5)
             rw [← KC.out.1] at hv5 hn5
             subst hv5
             have R5 := As.mk hr5
             have N5 := As.mk hn5
             have R3n := As.mk (R3.out.keep (Chg.trans (S' := NoB) (by repeat (first | exact Chg.refl _ _ | (with_reducible apply Chg.drew) | (with_reducible apply Chg.alloc))) hc5 (fun _ _ e => e)))
             clear R3
             have R3 := R3n
             clear R3n
             have R4n := As.mk (R4.out.keep (Chg.trans (S' := NoB) (by repeat (first | exact Chg.refl _ _ | (with_reducible apply Chg.drew) | (with_reducible apply Chg.alloc))) hc5 (fun _ _ e => e)))
             clear R4
             have R4 := R4n
             clear R4n
             have HB5 : As (Chg NoB w2 w5) := ⟨Chg.trans (by repeat (first | (with_reducible exact HB.out) | (with_reducible apply Chg.drew) | (with_reducible apply Chg.alloc))) hc5 (fun _ _ e => e)⟩
             clear HB hc5 ho5 hr5 hn5
             have HB := HB5
             clear HB5)
          | (go_at_call 94
             refine (open_any (w := w5) (CB.out.keep (C2.out.trans HB.out (fun _ _ e => e))) HR.out HM.out HBY.out.1 HBY.out.2 (HEX.out.chg (C2.out.trans HB.out (fun _ _ e => e)) (fun e => e)) R3.out KA.out.1 (Nat.le_refl 16) KA.out.2.2 R4.out KB.out.1 N4.out KB.out.2.2 R5.out KC.out.1 KC.out.2.2 (by omega) (by omega) (Nat.le_trans HHI.out (C2.out.trans HB.out (fun _ _ e => e)).size)).mono ?_
             rintro e w6 hp
             rw [← HRO.out] at hp
             obtain ⟨hc6, b6, rfl⟩ := hp
             have HB6 : As (Chg NoB w2 w6) := ⟨HB.out.trans hc6 (fun _ _ e => e)⟩
             clear HB hc6
             have HB := HB6
             clear HB6))
          all_goals
            clear KP d0
            go_upto_region 12 with fail
            go_region_held3 (fun _ => True) (trivial) (first
            | (go_at_call 28
               refine (own_any none 0 0 [] _ rfl Rk.none_ ?s8).mono ?_
               skip
               case s8 => simp
               rintro e w8 ⟨v8, rfl, ho8, hc8⟩
               have HBK : As (∀ b, v8.ownBlock = some b → w6.heap.size ≤ b ∧ b < w8.heap.size) := ⟨fun b e => ⟨Nat.le_trans (Chg.size (S := NoB) (w := w6) (by repeat (first | exact Chg.refl _ _ | (with_reducible apply Chg.drew) | (with_reducible apply Chg.alloc)))) (own_block_lt ho8 b e).1, (own_block_lt ho8 b e).2⟩⟩
               obtain ⟨A8, c8, hv8, hn8, hr8⟩ := ow_form (ow_of ho8)
               rw [List.length_nil] at hv8 hn8
               subst hv8
               have R8 := As.mk hr8
               have N8 := As.mk hn8
               have HB8 : As (Chg NoB w2 w8) := ⟨Chg.trans (by repeat (first | (with_reducible exact HB.out) | (with_reducible apply Chg.drew) | (with_reducible apply Chg.alloc))) hc8 (fun _ _ e => e)⟩
               have HZ8 : As (w2.heap.size ≤ w6.heap.size) := ⟨HB.out.size⟩
               clear HB hc8 ho8 hr8 hn8
               have HB := HB8
               clear HB8)
            | (refine step_append_s (N := 79) rfl rfl _ _ 38 rfl 76 2 (.agg #[.slice none 0 0, .bool false]) 32 Try.underlying38 infoOut rfl (by decide) (by decide) rv w.heap.size (List.map (outOf perm sub mask) (List.take k cs)).length (vs.flatMap outCells) _ 1 [.slice A8 0 c8, .bool false] rfl rfl ?k1 rfl ?k2 (by simp [Value.oneCell']) ?k4 ?k5 ?_
               case k1 => exact row_keep HVO.out (by repeat (first | (with_reducible exact HB.out) | (with_reducible apply Chg.drew) | (with_reducible apply Chg.alloc)))
               case k2 => exact (Blk.new w8 _ [.slice A8 0 c8, .bool false]).news
               case k4 => exact Nat.le_trans C2.out.size (Chg.size (S := NoB) (by repeat (first | (with_reducible exact HB.out) | (with_reducible apply Chg.drew) | (with_reducible apply Chg.alloc))))
               case k5 => (simp only [List.length_map, List.length_take]; omega)
               intro v7 w7 h2 h3 h5
               have hal := (Chg.refl NoB w8).alloc (.cells #[.slice A8 0 c8, .bool false] 76)
               have hz8 := HZ8.out
               have HO7 := As.mk (Outs.snoc (p := ((A8, 0, c8), false)) (x := outOf perm sub mask ⟨true, (Aa, 16, ca), nonce, (Ab, lb, cb), text, (Ac, lc, cc), hdr⟩) HVL.out (row_keep HVO.out (HB.out.trans hal (fun _ _ e => e))) (fun i p x a b => ⟨(HVI.out i p x a b).1, (HVI.out i p x a b).2.chg (HB.out.trans hal (fun _ _ e => e)) (fun _ _ _ e => e)⟩) (by rw [HOF.out])
                 (by rw [HOF.out]; exact ⟨rfl, Nat.zero_le _, R8.out.keep hal, fun ad e => by
                   have hb8 := HBK.out ad.block (by show (Value.slice A8 _ c8).ownBlock = _; rw [show A8 = some ad from e]; rfl)
                   exact ⟨fun e2 => by have := (HVO.out.lt _ e2).2; omega, Nat.lt_of_lt_of_le hb8.2 hal.size⟩⟩) h2 h3 h5)
               have C7 := As.mk (((C2.out.trans HB.out (fun _ _ e => e)).trans hal (fun _ _ e => e)).trans (S' := fun b => rv.ownBlock = some b) (grown_chg h3) (fun i hi e => absurd (HVO.out.lt i e).1 (by omega)))
               clear h2 h3 h5 hal HB hz8))
            all_goals
              go_wp2_with fail
              go_roundw
              case rel => exact ⟨k + 1, v7, rfl, by omega, by go_num, ⟨by rw [HTK.out]; exact HO7.out⟩, C7⟩
              case measure => simp [intOf]; omega
        | some xs =>
          have HOF : As (outOf perm sub mask ⟨true, (Aa, 16, ca), nonce, (Ab, lb, cb), text, (Ac, lc, cc), hdr⟩ = (xs, true)) := ⟨by unfold outOf; simp only [if_true]; rw [← hro]⟩
          have HXL : As (xs.length ≤ 1048576) := ⟨by
            unfold eaxOpenL at hro
            split at hro
            · injection hro with hro
              rw [hro]
              unfold eaxCt
              rw [ctrL_length, List.length_take]
              have := KB.out.1
              omega
            · cases hro⟩
          clear hro
          go_upto_region 9 with fail
          go_region_held3 (fun w' => w'.cell? ⟨D, 1, none⟩ = some (.slice Aa 16 ca) ∧ w'.cell? ⟨D, 2, none⟩ = some (.slice Ab lb cb) ∧ w'.cell? ⟨D, 3, none⟩ = some (.slice Ac lc cc)) (exact KP.out _ (by repeat (first | exact HB.out.mono (fun _ _ e => e.elim) | (with_reducible apply Chg.drew) | (with_reducible apply Chg.alloc)))) (first
          | (go_at_call 28
             with_reducible refine (own_any Aa 16 ca nonce _ KA.out.1 (KA.out.2.1.keep ?r3) ?s3).mono ?_
             case r3 => exact (by repeat (first | (with_reducible exact HB.out) | (with_reducible apply Chg.drew) | (with_reducible apply Chg.alloc)))
             case s3 => (have := KA.out.1; omega)
             rintro e w3 ⟨v3, rfl, ho3, hc3⟩
             obtain ⟨A3, c3, hv3, hn3, hr3⟩ := ow_form (ow_of ho3)
             rw [← KA.out.1] at hv3 hn3
             subst hv3
             have R3 := As.mk hr3
             have N3 := As.mk hn3

             have HB3 : As (Chg NoB w2 w3) := ⟨Chg.trans (by repeat (first | (with_reducible exact HB.out) | (with_reducible apply Chg.drew) | (with_reducible apply Chg.alloc))) hc3 (fun _ _ e => e)⟩
             clear HB hc3 ho3 hr3 hn3
             have HB := HB3
             clear HB3)
          | (go_at_call 28
             with_reducible refine (own_any Ab lb cb text _ KB.out.1 (KB.out.2.1.keep ?r4) ?s4).mono ?_
             case r4 => exact (by repeat (first | (with_reducible exact HB.out) | (with_reducible apply Chg.drew) | (with_reducible apply Chg.alloc)))
             case s4 => (have := KB.out.1; omega)
             rintro e w4 ⟨v4, rfl, ho4, hc4⟩
             obtain ⟨A4, c4, hv4, hn4, hr4⟩ := ow_form (ow_of ho4)
             rw [← KB.out.1] at hv4 hn4
             subst hv4
             have R4 := As.mk hr4
             have N4 := As.mk hn4
             have R3n := As.mk (R3.out.keep (Chg.trans (S' := NoB) (by repeat (first | exact Chg.refl _ _ | (with_reducible apply Chg.drew) | (with_reducible apply Chg.alloc))) hc4 (fun _ _ e => e)))
             clear R3
             have R3 := R3n
             clear R3n
             have HB4 : As (Chg NoB w2 w4) := ⟨Chg.trans (by repeat (first | (with_reducible exact HB.out) | (with_reducible apply Chg.drew) | (with_reducible apply Chg.alloc))) hc4 (fun _ _ e => e)⟩
             clear HB hc4 ho4 hr4 hn4
             have HB := HB4
             clear HB4)
          | (go_at_call 28
             with_reducible refine (own_any Ac lc cc hdr _ KC.out.1 (KC.out.2.1.keep ?r5) ?s5).mono ?_
             case r5 => exact (by repeat (first | (with_reducible exact HB.out) | (with_reducible apply Chg.drew) | (with_reducible apply Chg.alloc)))
             case s5 => (have := KC.out.1; omega)
             rintro e w5 ⟨v5, rfl, ho5, hc5⟩
             obtain ⟨A5, c5, hv5, hn5, hr5⟩ := ow_form (ow_of ho5)
             rw [← KC.out.1] at hv5 hn5
             subst hv5
             have R5 := As.mk hr5
             have N5 := As.mk hn5
             have R3n := As.mk (R3.out.keep (Chg.trans (S' := NoB) (by repeat (first | exact Chg.refl _ _ | (with_reducible apply Chg.drew) | (with_reducible apply Chg.alloc))) hc5 (fun _ _ e => e)))
             clear R3
             have R3 := R3n
             clear R3n
             have R4n := As.mk (R4.out.keep (Chg.trans (S' := NoB) (by repeat (first | exact Chg.refl _ _ | (with_reducible apply Chg.drew) | (with_reducible apply Chg.alloc))) hc5 (fun _ _ e => e)))
             clear R4
             have R4 := R4n
             clear R4n
             have HB5 : As (Chg NoB w2 w5) := ⟨Chg.trans (by repeat (first | (with_reducible exact HB.out) | (with_reducible apply Chg.drew) | (with_reducible apply Chg.alloc))) hc5 (fun _ _ e => e)⟩
             clear HB hc5 ho5 hr5 hn5
             have HB := HB5
             clear HB5)
          | (go_at_call 94
             refine (open_any (w := w5) (CB.out.keep (C2.out.trans HB.out (fun _ _ e => e))) HR.out HM.out HBY.out.1 HBY.out.2 (HEX.out.chg (C2.out.trans HB.out (fun _ _ e => e)) (fun e => e)) R3.out KA.out.1 (Nat.le_refl 16) KA.out.2.2 R4.out KB.out.1 N4.out KB.out.2.2 R5.out KC.out.1 KC.out.2.2 (by omega) (by omega) (Nat.le_trans HHI.out (C2.out.trans HB.out (fun _ _ e => e)).size)).mono ?_
             rintro e w6 hp
             rw [← HRO.out] at hp
             obtain ⟨hc6, g6, n6, c6, rfl, hn6, hr6⟩ := hp
             have R6 := As.mk hr6
             have N6 := As.mk hn6
             clear hr6 hn6
             have HB6 : As (Chg NoB w2 w6) := ⟨HB.out.trans hc6 (fun _ _ e => e)⟩
             clear HB hc6
             have HB := HB6
             clear HB6))
          all_goals
            clear KP d0
            go_upto_region 12 with fail
            go_region_held3 (fun _ => True) (trivial) (first
            | (go_at_call 28
               refine (own_any (some ⟨g6, 0, none⟩) n6 c6 xs _ N6.out (R6.out.keep ?r8) ?s8).mono ?_
               case r8 => exact (by repeat (first | exact Chg.refl _ _ | (with_reducible apply Chg.drew) | (with_reducible apply Chg.alloc)))
               case s8 => (have := HXL.out; omega)
               rintro e w8 ⟨v8, rfl, ho8, hc8⟩
               have HBK : As (∀ b, v8.ownBlock = some b → w6.heap.size ≤ b ∧ b < w8.heap.size) := ⟨fun b e => ⟨Nat.le_trans (Chg.size (S := NoB) (w := w6) (by repeat (first | exact Chg.refl _ _ | (with_reducible apply Chg.drew) | (with_reducible apply Chg.alloc)))) (own_block_lt ho8 b e).1, (own_block_lt ho8 b e).2⟩⟩
               obtain ⟨A8, c8, hv8, hn8, hr8⟩ := ow_form (ow_of ho8)
               rw [← N6.out] at hv8 hn8
               subst hv8
               have R8 := As.mk hr8
               have N8 := As.mk hn8
               have HB8 : As (Chg NoB w2 w8) := ⟨Chg.trans (by repeat (first | (with_reducible exact HB.out) | (with_reducible apply Chg.drew) | (with_reducible apply Chg.alloc))) hc8 (fun _ _ e => e)⟩
               have HZ8 : As (w2.heap.size ≤ w6.heap.size) := ⟨HB.out.size⟩
               clear HB hc8 ho8 hr8 hn8
               have HB := HB8
               clear HB8)
            | (refine step_append_s (N := 79) rfl rfl _ _ 38 rfl 76 2 (.agg #[.slice none 0 0, .bool false]) 32 Try.underlying38 infoOut rfl (by decide) (by decide) rv w.heap.size (List.map (outOf perm sub mask) (List.take k cs)).length (vs.flatMap outCells) _ 1 [.slice A8 n6 c8, .bool true] rfl rfl ?k1 rfl ?k2 (by simp [Value.oneCell']) ?k4 ?k5 ?_
               case k1 => exact row_keep HVO.out (by repeat (first | (with_reducible exact HB.out) | (with_reducible apply Chg.drew) | (with_reducible apply Chg.alloc)))
               case k2 => exact (Blk.new w8 _ [.slice A8 n6 c8, .bool true]).news
               case k4 => exact Nat.le_trans C2.out.size (Chg.size (S := NoB) (by repeat (first | (with_reducible exact HB.out) | (with_reducible apply Chg.drew) | (with_reducible apply Chg.alloc))))
               case k5 => (simp only [List.length_map, List.length_take]; omega)
               intro v7 w7 h2 h3 h5
               have hal := (Chg.refl NoB w8).alloc (.cells #[.slice A8 n6 c8, .bool true] 76)
               have hz8 := HZ8.out
               have HO7 := As.mk (Outs.snoc (p := ((A8, n6, c8), true)) (x := outOf perm sub mask ⟨true, (Aa, 16, ca), nonce, (Ab, lb, cb), text, (Ac, lc, cc), hdr⟩) HVL.out (row_keep HVO.out (HB.out.trans hal (fun _ _ e => e))) (fun i p x a b => ⟨(HVI.out i p x a b).1, (HVI.out i p x a b).2.chg (HB.out.trans hal (fun _ _ e => e)) (fun _ _ _ e => e)⟩) (by rw [HOF.out])
                 (by rw [HOF.out]; exact ⟨N6.out, by rw [← N6.out]; exact N8.out, R8.out.keep hal, fun ad e => by
                   have hb8 := HBK.out ad.block (by show (Value.slice A8 _ c8).ownBlock = _; rw [show A8 = some ad from e]; rfl)
                   exact ⟨fun e2 => by have := (HVO.out.lt _ e2).2; omega, Nat.lt_of_lt_of_le hb8.2 hal.size⟩⟩) h2 h3 h5)
               have C7 := As.mk (((C2.out.trans HB.out (fun _ _ e => e)).trans hal (fun _ _ e => e)).trans (S' := fun b => rv.ownBlock = some b) (grown_chg h3) (fun i hi e => absurd (HVO.out.lt i e).1 (by omega)))
               clear h2 h3 h5 hal HB hz8))
            all_goals
              go_wp2_with fail
              go_roundw
              case rel => exact ⟨k + 1, v7, rfl, by omega, by go_num, ⟨by rw [HTK.out]; exact HO7.out⟩, C7⟩
              case measure => simp [intOf]; omega
    · have hz : ¬ ((k : Int) < (n : Int)) := by omega
      have hkn : k = n := by omega
      have HE : As (Outs wr w.heap.size rv (cs.map (outOf perm sub mask))) := ⟨by have h := HO.out; rwa [List.take_of_length_le (by have := HN.out; omega)] at h⟩
      clear hkn HO
      go_wp2_with fail
      go_ret
      exact ⟨_, rfl, HE.out, HC.out⟩
end Go.Proofs.Ythbgpbaneghmdaa
